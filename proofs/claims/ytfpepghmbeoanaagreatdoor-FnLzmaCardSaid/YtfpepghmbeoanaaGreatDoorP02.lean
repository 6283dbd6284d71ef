/-
Closed facts on the program's types.
Rows: slices that the call owns, append, make, copy.
Regions that draw their order, read and turn memory: one order for all.
-/
import Derived.Test.YtfpepghmbeoanaaGreatDoorProg
import Derived.Test.YtfpepghmbeoanaaGreatDoorP01
set_option linter.unusedSimpArgs false
set_option linter.unusedVariables false
section
open Go Go.RowKit
namespace Go.Proofs.YtfpepghmbeoanaaGreatDoor
theorem mixed : Tryz.prog.follows .mixedOrders = true := by kernel_rfl
theorem agg147 : Aggr Tryz.prog 147 1 := fun _ => ⟨by kernel_rfl, by kernel_rfl⟩
theorem agg196 : Aggr Tryz.prog 196 3 := fun _ => ⟨by kernel_rfl, by kernel_rfl⟩
theorem agg198 : Aggr Tryz.prog 198 5 := fun _ => ⟨by kernel_rfl, by kernel_rfl⟩
theorem agg219 : Aggr Tryz.prog 219 3 := fun _ => ⟨by kernel_rfl, by kernel_rfl⟩
theorem agg24 : Aggr Tryz.prog 24 6 := fun _ => ⟨by kernel_rfl, by kernel_rfl⟩
theorem agg258 : Aggr Tryz.prog 258 2 := fun _ => ⟨by kernel_rfl, by kernel_rfl⟩
theorem agg51 : Aggr Tryz.prog 51 14 := fun _ => ⟨by kernel_rfl, by kernel_rfl⟩
theorem agg54 : Aggr Tryz.prog 54 4 := fun _ => ⟨by kernel_rfl, by kernel_rfl⟩
theorem cnv250_45 : Cnv Tryz.prog 250 45 .u32 := fun _ _ _ => by kernel_rfl
theorem cnv2_43 : Cnv Tryz.prog 2 43 .u64 := fun _ _ _ => by kernel_rfl
theorem cnv2_45 : Cnv Tryz.prog 2 45 .u32 := fun _ _ _ => by kernel_rfl
theorem cnv355_3 : Cnv Tryz.prog 355 3 .i64 := fun _ _ _ => by kernel_rfl
theorem cnv3_43 : Cnv Tryz.prog 3 43 .u64 := fun _ _ _ => by kernel_rfl
theorem cnv3_45 : Cnv Tryz.prog 3 45 .u32 := fun _ _ _ => by kernel_rfl
theorem cnv3_5 : Cnv Tryz.prog 3 5 .u8 := fun _ _ _ => by kernel_rfl
theorem cnv3_67 : Cnv Tryz.prog 3 67 .u64 := fun _ _ _ => by kernel_rfl
theorem cnv43_2 : Cnv Tryz.prog 43 2 .i64 := fun _ _ _ => by kernel_rfl
theorem cnv43_3 : Cnv Tryz.prog 43 3 .i64 := fun _ _ _ => by kernel_rfl
theorem cnv43_45 : Cnv Tryz.prog 43 45 .u32 := fun _ _ _ => by kernel_rfl
theorem cnv43_5 : Cnv Tryz.prog 43 5 .u8 := fun _ _ _ => by kernel_rfl
theorem cnv45_2 : Cnv Tryz.prog 45 2 .i64 := fun _ _ _ => by kernel_rfl
theorem cnv45_3 : Cnv Tryz.prog 45 3 .i64 := fun _ _ _ => by kernel_rfl
theorem cnv45_355 : Cnv Tryz.prog 45 355 .u8 := fun _ _ _ => by kernel_rfl
theorem cnv45_43 : Cnv Tryz.prog 45 43 .u64 := fun _ _ _ => by kernel_rfl
theorem cnv45_5 : Cnv Tryz.prog 45 5 .u8 := fun _ _ _ => by kernel_rfl
theorem cnv5_3 : Cnv Tryz.prog 5 3 .i64 := fun _ _ _ => by kernel_rfl
theorem cnv5_43 : Cnv Tryz.prog 5 43 .u64 := fun _ _ _ => by kernel_rfl
theorem cnv5_45 : Cnv Tryz.prog 5 45 .u32 := fun _ _ _ => by kernel_rfl
theorem cnv5_61 : Cnv Tryz.prog 5 61 .u16 := fun _ _ _ => by kernel_rfl
theorem cnv5_67 : Cnv Tryz.prog 5 67 .u64 := fun _ _ _ => by kernel_rfl
theorem cnv61_2 : Cnv Tryz.prog 61 2 .i64 := fun _ _ _ => by kernel_rfl
theorem cnv61_45 : Cnv Tryz.prog 61 45 .u32 := fun _ _ _ => by kernel_rfl
theorem cnv67_45 : Cnv Tryz.prog 67 45 .u32 := fun _ _ _ => by kernel_rfl
theorem elm113 : Elm Tryz.prog 113 (Value.nilIface) 16 := .of (by kernel_rfl) rfl
theorem elm22 : Elm Tryz.prog 22 (Value.slice none 0 0) 24 := .of (by kernel_rfl) rfl
theorem elm250 : Elm Tryz.prog 250 (Value.int IntKind.u16 0) 2 := .of (by kernel_rfl) rfl
theorem elm5 : Elm Tryz.prog 5 (Value.int IntKind.u8 0) 1 := .of (by kernel_rfl) rfl
theorem elm61 : Elm Tryz.prog 61 (Value.int IntKind.u16 0) 2 := .of (by kernel_rfl) rfl
theorem elm90 : Elm Tryz.prog 90 (Value.nilIface) 16 := .of (by kernel_rfl) rfl
theorem fld105_0 : Fld Tryz.prog 105 0 0 := fun _ _ => by kernel_rfl
theorem fld105_1 : Fld Tryz.prog 105 1 1 := fun _ _ => by kernel_rfl
theorem fld105_2 : Fld Tryz.prog 105 2 257 := fun _ _ => by kernel_rfl
theorem fld119_1 : Fld Tryz.prog 119 1 1 := fun _ _ => by kernel_rfl
theorem fld123_0 : Fld Tryz.prog 123 0 0 := fun _ _ => by kernel_rfl
theorem fld123_1 : Fld Tryz.prog 123 1 1 := fun _ _ => by kernel_rfl
theorem fld131_0 : Fld Tryz.prog 131 0 0 := fun _ _ => by kernel_rfl
theorem fld131_1 : Fld Tryz.prog 131 1 1 := fun _ _ => by kernel_rfl
theorem fld131_2 : Fld Tryz.prog 131 2 2 := fun _ _ => by kernel_rfl
theorem fld134_0 : Fld Tryz.prog 134 0 0 := fun _ _ => by kernel_rfl
theorem fld134_1 : Fld Tryz.prog 134 1 1 := fun _ _ => by kernel_rfl
theorem fld134_2 : Fld Tryz.prog 134 2 2 := fun _ _ => by kernel_rfl
theorem fld134_3 : Fld Tryz.prog 134 3 3 := fun _ _ => by kernel_rfl
theorem fld134_4 : Fld Tryz.prog 134 4 4 := fun _ _ => by kernel_rfl
theorem fld134_5 : Fld Tryz.prog 134 5 5 := fun _ _ => by kernel_rfl
theorem fld134_6 : Fld Tryz.prog 134 6 6 := fun _ _ => by kernel_rfl
theorem fld134_7 : Fld Tryz.prog 134 7 264 := fun _ _ => by kernel_rfl
theorem fld134_8 : Fld Tryz.prog 134 8 265 := fun _ _ => by kernel_rfl
theorem fld134_9 : Fld Tryz.prog 134 9 266 := fun _ _ => by kernel_rfl
theorem fld139_0 : Fld Tryz.prog 139 0 0 := fun _ _ => by kernel_rfl
theorem fld141_0 : Fld Tryz.prog 141 0 0 := fun _ _ => by kernel_rfl
theorem fld143_0 : Fld Tryz.prog 143 0 0 := fun _ _ => by kernel_rfl
theorem fld145_0 : Fld Tryz.prog 145 0 0 := fun _ _ => by kernel_rfl
theorem fld147_0 : Fld Tryz.prog 147 0 0 := fun _ _ => by kernel_rfl
theorem fld154_1 : Fld Tryz.prog 154 1 1 := fun _ _ => by kernel_rfl
theorem fld166_0 : Fld Tryz.prog 166 0 0 := fun _ _ => by kernel_rfl
theorem fld173_0 : Fld Tryz.prog 173 0 0 := fun _ _ => by kernel_rfl
theorem fld173_1 : Fld Tryz.prog 173 1 1 := fun _ _ => by kernel_rfl
theorem fld173_2 : Fld Tryz.prog 173 2 2 := fun _ _ => by kernel_rfl
theorem fld178_0 : Fld Tryz.prog 178 0 0 := fun _ _ => by kernel_rfl
theorem fld178_1 : Fld Tryz.prog 178 1 1 := fun _ _ => by kernel_rfl
theorem fld178_2 : Fld Tryz.prog 178 2 4 := fun _ _ => by kernel_rfl
theorem fld178_3 : Fld Tryz.prog 178 3 5 := fun _ _ => by kernel_rfl
theorem fld182_0 : Fld Tryz.prog 182 0 0 := fun _ _ => by kernel_rfl
theorem fld191_0 : Fld Tryz.prog 191 0 0 := fun _ _ => by kernel_rfl
theorem fld191_1 : Fld Tryz.prog 191 1 1 := fun _ _ => by kernel_rfl
theorem fld191_2 : Fld Tryz.prog 191 2 2 := fun _ _ => by kernel_rfl
theorem fld191_3 : Fld Tryz.prog 191 3 3 := fun _ _ => by kernel_rfl
theorem fld191_4 : Fld Tryz.prog 191 4 4 := fun _ _ => by kernel_rfl
theorem fld191_5 : Fld Tryz.prog 191 5 5 := fun _ _ => by kernel_rfl
theorem fld191_6 : Fld Tryz.prog 191 6 6 := fun _ _ => by kernel_rfl
theorem fld196_0 : Fld Tryz.prog 196 0 0 := fun _ _ => by kernel_rfl
theorem fld196_1 : Fld Tryz.prog 196 1 1 := fun _ _ => by kernel_rfl
theorem fld196_2 : Fld Tryz.prog 196 2 2 := fun _ _ => by kernel_rfl
theorem fld198_0 : Fld Tryz.prog 198 0 0 := fun _ _ => by kernel_rfl
theorem fld198_1 : Fld Tryz.prog 198 1 3 := fun _ _ => by kernel_rfl
theorem fld198_2 : Fld Tryz.prog 198 2 4 := fun _ _ => by kernel_rfl
theorem fld200_1 : Fld Tryz.prog 200 1 1 := fun _ _ => by kernel_rfl
theorem fld200_2 : Fld Tryz.prog 200 2 6 := fun _ _ => by kernel_rfl
theorem fld200_3 : Fld Tryz.prog 200 3 11 := fun _ _ => by kernel_rfl
theorem fld212_0 : Fld Tryz.prog 212 0 0 := fun _ _ => by kernel_rfl
theorem fld219_0 : Fld Tryz.prog 219 0 0 := fun _ _ => by kernel_rfl
theorem fld219_1 : Fld Tryz.prog 219 1 1 := fun _ _ => by kernel_rfl
theorem fld219_2 : Fld Tryz.prog 219 2 2 := fun _ _ => by kernel_rfl
theorem fld223_0 : Fld Tryz.prog 223 0 0 := fun _ _ => by kernel_rfl
theorem fld223_1 : Fld Tryz.prog 223 1 3 := fun _ _ => by kernel_rfl
theorem fld230_0 : Fld Tryz.prog 230 0 0 := fun _ _ => by kernel_rfl
theorem fld230_1 : Fld Tryz.prog 230 1 1 := fun _ _ => by kernel_rfl
theorem fld230_2 : Fld Tryz.prog 230 2 2 := fun _ _ => by kernel_rfl
theorem fld230_3 : Fld Tryz.prog 230 3 3 := fun _ _ => by kernel_rfl
theorem fld237_0 : Fld Tryz.prog 237 0 0 := fun _ _ => by kernel_rfl
theorem fld237_1 : Fld Tryz.prog 237 1 1 := fun _ _ => by kernel_rfl
theorem fld237_2 : Fld Tryz.prog 237 2 2 := fun _ _ => by kernel_rfl
theorem fld237_3 : Fld Tryz.prog 237 3 3 := fun _ _ => by kernel_rfl
theorem fld237_4 : Fld Tryz.prog 237 4 4 := fun _ _ => by kernel_rfl
theorem fld237_5 : Fld Tryz.prog 237 5 5 := fun _ _ => by kernel_rfl
theorem fld237_6 : Fld Tryz.prog 237 6 6 := fun _ _ => by kernel_rfl
theorem fld24_0 : Fld Tryz.prog 24 0 0 := fun _ _ => by kernel_rfl
theorem fld24_1 : Fld Tryz.prog 24 1 1 := fun _ _ => by kernel_rfl
theorem fld24_2 : Fld Tryz.prog 24 2 2 := fun _ _ => by kernel_rfl
theorem fld24_3 : Fld Tryz.prog 24 3 3 := fun _ _ => by kernel_rfl
theorem fld24_4 : Fld Tryz.prog 24 4 4 := fun _ _ => by kernel_rfl
theorem fld24_5 : Fld Tryz.prog 24 5 5 := fun _ _ => by kernel_rfl
theorem fld255_0 : Fld Tryz.prog 255 0 0 := fun _ _ => by kernel_rfl
theorem fld258_0 : Fld Tryz.prog 258 0 0 := fun _ _ => by kernel_rfl
theorem fld258_1 : Fld Tryz.prog 258 1 1 := fun _ _ => by kernel_rfl
theorem fld260_0 : Fld Tryz.prog 260 0 0 := fun _ _ => by kernel_rfl
theorem fld263_0 : Fld Tryz.prog 263 0 0 := fun _ _ => by kernel_rfl
theorem fld263_1 : Fld Tryz.prog 263 1 2 := fun _ _ => by kernel_rfl
theorem fld263_2 : Fld Tryz.prog 263 2 34 := fun _ _ => by kernel_rfl
theorem fld263_3 : Fld Tryz.prog 263 3 66 := fun _ _ => by kernel_rfl
theorem fld265_0 : Fld Tryz.prog 265 0 0 := fun _ _ => by kernel_rfl
theorem fld268_0 : Fld Tryz.prog 268 0 0 := fun _ _ => by kernel_rfl
theorem fld268_1 : Fld Tryz.prog 268 1 8 := fun _ _ => by kernel_rfl
theorem fld268_2 : Fld Tryz.prog 268 2 28 := fun _ _ => by kernel_rfl
theorem fld26_3 : Fld Tryz.prog 26 3 3 := fun _ _ => by kernel_rfl
theorem fld26_4 : Fld Tryz.prog 26 4 4 := fun _ _ => by kernel_rfl
theorem fld26_5 : Fld Tryz.prog 26 5 5 := fun _ _ => by kernel_rfl
theorem fld270_0 : Fld Tryz.prog 270 0 0 := fun _ _ => by kernel_rfl
theorem fld270_1 : Fld Tryz.prog 270 1 4 := fun _ _ => by kernel_rfl
theorem fld270_10 : Fld Tryz.prog 270 10 573 := fun _ _ => by kernel_rfl
theorem fld270_11 : Fld Tryz.prog 270 11 603 := fun _ _ => by kernel_rfl
theorem fld270_12 : Fld Tryz.prog 270 12 604 := fun _ _ => by kernel_rfl
theorem fld270_13 : Fld Tryz.prog 270 13 605 := fun _ _ => by kernel_rfl
theorem fld270_2 : Fld Tryz.prog 270 2 196 := fun _ _ => by kernel_rfl
theorem fld270_3 : Fld Tryz.prog 270 3 388 := fun _ _ => by kernel_rfl
theorem fld270_4 : Fld Tryz.prog 270 4 400 := fun _ _ => by kernel_rfl
theorem fld270_5 : Fld Tryz.prog 270 5 412 := fun _ _ => by kernel_rfl
theorem fld270_6 : Fld Tryz.prog 270 6 424 := fun _ _ => by kernel_rfl
theorem fld270_7 : Fld Tryz.prog 270 7 436 := fun _ _ => by kernel_rfl
theorem fld270_8 : Fld Tryz.prog 270 8 437 := fun _ _ => by kernel_rfl
theorem fld270_9 : Fld Tryz.prog 270 9 505 := fun _ _ => by kernel_rfl
theorem fld276_0 : Fld Tryz.prog 276 0 0 := fun _ _ => by kernel_rfl
theorem fld276_1 : Fld Tryz.prog 276 1 1 := fun _ _ => by kernel_rfl
theorem fld282_0 : Fld Tryz.prog 282 0 0 := fun _ _ => by kernel_rfl
theorem fld282_1 : Fld Tryz.prog 282 1 1 := fun _ _ => by kernel_rfl
theorem fld284_0 : Fld Tryz.prog 284 0 0 := fun _ _ => by kernel_rfl
theorem fld284_1 : Fld Tryz.prog 284 1 2 := fun _ _ => by kernel_rfl
theorem fld284_2 : Fld Tryz.prog 284 2 3 := fun _ _ => by kernel_rfl
theorem fld284_3 : Fld Tryz.prog 284 3 4 := fun _ _ => by kernel_rfl
theorem fld288_0 : Fld Tryz.prog 288 0 0 := fun _ _ => by kernel_rfl
theorem fld288_1 : Fld Tryz.prog 288 1 1 := fun _ _ => by kernel_rfl
theorem fld288_2 : Fld Tryz.prog 288 2 2 := fun _ _ => by kernel_rfl
theorem fld344_0 : Fld Tryz.prog 344 0 0 := fun _ _ => by kernel_rfl
theorem fld344_1 : Fld Tryz.prog 344 1 1 := fun _ _ => by kernel_rfl
theorem fld347_0 : Fld Tryz.prog 347 0 0 := fun _ _ => by kernel_rfl
theorem fld47_0 : Fld Tryz.prog 47 0 0 := fun _ _ => by kernel_rfl
theorem fld47_1 : Fld Tryz.prog 47 1 1 := fun _ _ => by kernel_rfl
theorem fld47_2 : Fld Tryz.prog 47 2 2 := fun _ _ => by kernel_rfl
theorem fld47_3 : Fld Tryz.prog 47 3 3 := fun _ _ => by kernel_rfl
theorem fld47_4 : Fld Tryz.prog 47 4 4 := fun _ _ => by kernel_rfl
theorem fld75_0 : Fld Tryz.prog 75 0 0 := fun _ _ => by kernel_rfl
theorem fld75_1 : Fld Tryz.prog 75 1 1 := fun _ _ => by kernel_rfl
theorem fld75_2 : Fld Tryz.prog 75 2 17 := fun _ _ => by kernel_rfl
theorem fld75_3 : Fld Tryz.prog 75 3 33 := fun _ _ => by kernel_rfl
theorem fld96_0 : Fld Tryz.prog 96 0 0 := fun _ _ => by kernel_rfl
theorem fld96_1 : Fld Tryz.prog 96 1 1 := fun _ _ => by kernel_rfl
theorem fld96_2 : Fld Tryz.prog 96 2 2 := fun _ _ => by kernel_rfl
theorem mki102 : Mki Tryz.prog 102 := fun _ _ => by kernel_rfl
theorem mki106 : Mki Tryz.prog 106 := fun _ _ => by kernel_rfl
theorem mki109 : Mki Tryz.prog 109 := fun _ _ => by kernel_rfl
theorem mki115 : Mki Tryz.prog 115 := fun _ _ => by kernel_rfl
theorem mki121 : Mki Tryz.prog 121 := fun _ _ => by kernel_rfl
theorem mki124 : Mki Tryz.prog 124 := fun _ _ => by kernel_rfl
theorem mki137 : Mki Tryz.prog 137 := fun _ _ => by kernel_rfl
theorem mki140 : Mki Tryz.prog 140 := fun _ _ => by kernel_rfl
theorem mki142 : Mki Tryz.prog 142 := fun _ _ => by kernel_rfl
theorem mki144 : Mki Tryz.prog 144 := fun _ _ => by kernel_rfl
theorem mki149 : Mki Tryz.prog 149 := fun _ _ => by kernel_rfl
theorem mki152 : Mki Tryz.prog 152 := fun _ _ => by kernel_rfl
theorem mki171 : Mki Tryz.prog 171 := fun _ _ => by kernel_rfl
theorem mki176 : Mki Tryz.prog 176 := fun _ _ => by kernel_rfl
theorem mki180 : Mki Tryz.prog 180 := fun _ _ => by kernel_rfl
theorem mki187 : Mki Tryz.prog 187 := fun _ _ => by kernel_rfl
theorem mki188 : Mki Tryz.prog 188 := fun _ _ => by kernel_rfl
theorem mki189 : Mki Tryz.prog 189 := fun _ _ => by kernel_rfl
theorem mki202 : Mki Tryz.prog 202 := fun _ _ => by kernel_rfl
theorem mki210 : Mki Tryz.prog 210 := fun _ _ => by kernel_rfl
theorem mki215 : Mki Tryz.prog 215 := fun _ _ => by kernel_rfl
theorem mki274 : Mki Tryz.prog 274 := fun _ _ => by kernel_rfl
theorem mki285 : Mki Tryz.prog 285 := fun _ _ => by kernel_rfl
theorem mki344 : Mki Tryz.prog 344 := fun _ _ => by kernel_rfl
theorem mki347 : Mki Tryz.prog 347 := fun _ _ => by kernel_rfl
theorem mki88 : Mki Tryz.prog 88 := fun _ _ => by kernel_rfl
theorem mki9 : Mki Tryz.prog 9 := fun _ _ => by kernel_rfl
theorem scal106 : Scal Tryz.prog 106 := fun _ => by kernel_rfl
theorem scal113 : Scal Tryz.prog 113 := fun _ => by kernel_rfl
theorem scal126 : Scal Tryz.prog 126 := fun _ => by kernel_rfl
theorem scal169 : Scal Tryz.prog 169 := fun _ => by kernel_rfl
theorem scal175 : Scal Tryz.prog 175 := fun _ => by kernel_rfl
theorem scal186 : Scal Tryz.prog 186 := fun _ => by kernel_rfl
theorem scal187 : Scal Tryz.prog 187 := fun _ => by kernel_rfl
theorem scal188 : Scal Tryz.prog 188 := fun _ => by kernel_rfl
theorem scal189 : Scal Tryz.prog 189 := fun _ => by kernel_rfl
theorem scal2 : Scal Tryz.prog 2 := fun _ => by kernel_rfl
theorem scal204 : Scal Tryz.prog 204 := fun _ => by kernel_rfl
theorem scal209 : Scal Tryz.prog 209 := fun _ => by kernel_rfl
theorem scal22 : Scal Tryz.prog 22 := fun _ => by kernel_rfl
theorem scal228 : Scal Tryz.prog 228 := fun _ => by kernel_rfl
theorem scal235 : Scal Tryz.prog 235 := fun _ => by kernel_rfl
theorem scal250 : Scal Tryz.prog 250 := fun _ => by kernel_rfl
theorem scal253 : Scal Tryz.prog 253 := fun _ => by kernel_rfl
theorem scal3 : Scal Tryz.prog 3 := fun _ => by kernel_rfl
theorem scal4 : Scal Tryz.prog 4 := fun _ => by kernel_rfl
theorem scal43 : Scal Tryz.prog 43 := fun _ => by kernel_rfl
theorem scal45 : Scal Tryz.prog 45 := fun _ => by kernel_rfl
theorem scal48 : Scal Tryz.prog 48 := fun _ => by kernel_rfl
theorem scal5 : Scal Tryz.prog 5 := fun _ => by kernel_rfl
theorem scal61 : Scal Tryz.prog 61 := fun _ => by kernel_rfl
theorem scal67 : Scal Tryz.prog 67 := fun _ => by kernel_rfl
theorem scal70 : Scal Tryz.prog 70 := fun _ => by kernel_rfl
theorem scal90 : Scal Tryz.prog 90 := fun _ => by kernel_rfl
theorem siz113 : Siz Tryz.prog 113 1 := fun _ => by kernel_rfl
theorem siz129 : Siz Tryz.prog 129 1 := fun _ => by kernel_rfl
theorem siz147 : Siz Tryz.prog 147 1 := fun _ => by kernel_rfl
theorem siz186 : Siz Tryz.prog 186 1 := fun _ => by kernel_rfl
theorem siz187 : Siz Tryz.prog 187 1 := fun _ => by kernel_rfl
theorem siz188 : Siz Tryz.prog 188 1 := fun _ => by kernel_rfl
theorem siz189 : Siz Tryz.prog 189 1 := fun _ => by kernel_rfl
theorem siz196 : Siz Tryz.prog 196 3 := fun _ => by kernel_rfl
theorem siz198 : Siz Tryz.prog 198 5 := fun _ => by kernel_rfl
theorem siz2 : Siz Tryz.prog 2 1 := fun _ => by kernel_rfl
theorem siz204 : Siz Tryz.prog 204 1 := fun _ => by kernel_rfl
theorem siz209 : Siz Tryz.prog 209 1 := fun _ => by kernel_rfl
theorem siz22 : Siz Tryz.prog 22 1 := fun _ => by kernel_rfl
theorem siz230 : Siz Tryz.prog 230 6 := fun _ => by kernel_rfl
theorem siz235 : Siz Tryz.prog 235 1 := fun _ => by kernel_rfl
theorem siz250 : Siz Tryz.prog 250 1 := fun _ => by kernel_rfl
theorem siz253 : Siz Tryz.prog 253 1 := fun _ => by kernel_rfl
theorem siz258 : Siz Tryz.prog 258 2 := fun _ => by kernel_rfl
theorem siz26 : Siz Tryz.prog 26 6 := fun _ => by kernel_rfl
theorem siz260 : Siz Tryz.prog 260 2 := fun _ => by kernel_rfl
theorem siz265 : Siz Tryz.prog 265 2 := fun _ => by kernel_rfl
theorem siz270 : Siz Tryz.prog 270 608 := fun _ => by kernel_rfl
theorem siz282 : Siz Tryz.prog 282 2 := fun _ => by kernel_rfl
theorem siz3 : Siz Tryz.prog 3 1 := fun _ => by kernel_rfl
theorem siz344 : Siz Tryz.prog 344 2 := fun _ => by kernel_rfl
theorem siz347 : Siz Tryz.prog 347 1 := fun _ => by kernel_rfl
theorem siz4 : Siz Tryz.prog 4 1 := fun _ => by kernel_rfl
theorem siz43 : Siz Tryz.prog 43 1 := fun _ => by kernel_rfl
theorem siz45 : Siz Tryz.prog 45 1 := fun _ => by kernel_rfl
theorem siz48 : Siz Tryz.prog 48 1 := fun _ => by kernel_rfl
theorem siz5 : Siz Tryz.prog 5 1 := fun _ => by kernel_rfl
theorem siz50 : Siz Tryz.prog 50 4 := fun _ => by kernel_rfl
theorem siz51 : Siz Tryz.prog 51 14 := fun _ => by kernel_rfl
theorem siz54 : Siz Tryz.prog 54 4 := fun _ => by kernel_rfl
theorem siz61 : Siz Tryz.prog 61 1 := fun _ => by kernel_rfl
theorem siz67 : Siz Tryz.prog 67 1 := fun _ => by kernel_rfl
theorem siz70 : Siz Tryz.prog 70 1 := fun _ => by kernel_rfl
theorem siz78 : Siz Tryz.prog 78 8 := fun _ => by kernel_rfl
theorem siz79 : Siz Tryz.prog 79 8 := fun _ => by kernel_rfl
theorem siz90 : Siz Tryz.prog 90 1 := fun _ => by kernel_rfl
theorem zer123 : Zer Tryz.prog 123 (.agg #[Value.int IntKind.u32 0, Value.int IntKind.u32 0]) := fun _ => by kernel_rfl
theorem zer131 : Zer Tryz.prog 131 (.agg #[Value.slice none 0 0, Value.int IntKind.i64 0, Value.int IntKind.i8 0]) := fun _ => by kernel_rfl
theorem zer139 : Zer Tryz.prog 139 (.agg #[Value.int IntKind.u32 0]) := fun _ => by kernel_rfl
theorem zer141 : Zer Tryz.prog 141 (.agg #[Value.int IntKind.u32 0]) := fun _ => by kernel_rfl
theorem zer143 : Zer Tryz.prog 143 (.agg #[Value.int IntKind.u32 0]) := fun _ => by kernel_rfl
theorem zer145 : Zer Tryz.prog 145 (.agg #[Value.int IntKind.u32 0]) := fun _ => by kernel_rfl
theorem zer147 : Zer Tryz.prog 147 (.agg #[Value.int IntKind.i64 0]) := fun _ => by kernel_rfl
theorem zer196 : Zer Tryz.prog 196 (.agg #[Value.int IntKind.i64 0, Value.int IntKind.i64 0, Value.int IntKind.i64 0]) := fun _ => by kernel_rfl
theorem zer230 : Zer Tryz.prog 230 (.agg #[Value.int IntKind.u8 0, Value.int IntKind.u32 0, Value.int IntKind.u16 0, Value.int IntKind.i64 0, Value.int IntKind.i64 0, Value.int IntKind.i64 0]) := fun _ => by kernel_rfl
theorem zer258 : Zer Tryz.prog 258 (.agg #[Value.slice none 0 0, Value.int IntKind.u8 0]) := fun _ => by kernel_rfl
theorem zer26 : Zer Tryz.prog 26 (.agg #[Value.int IntKind.i64 0, Value.int IntKind.i64 0, Value.int IntKind.i64 0, Value.int IntKind.i64 0, Value.int IntKind.i64 0, Value.int IntKind.i64 0]) := fun _ => by kernel_rfl
theorem zer260 : Zer Tryz.prog 260 (.agg #[Value.slice none 0 0, Value.int IntKind.u8 0]) := fun _ => by kernel_rfl
theorem zer265 : Zer Tryz.prog 265 (.agg #[Value.slice none 0 0, Value.int IntKind.u8 0]) := fun _ => by kernel_rfl
theorem zer297 : Zer Tryz.prog 297 (.agg (Value.int IntKind.u8 0 :: Value.int IntKind.u8 0 :: Value.int IntKind.u8 0 :: Value.int IntKind.u8 0 :: Value.int IntKind.u8 0 :: Value.int IntKind.u8 0 :: Value.int IntKind.u8 0 :: Value.int IntKind.u8 0 :: Value.int IntKind.u8 0 :: Value.int IntKind.u8 0 :: Value.int IntKind.u8 0 :: Value.int IntKind.u8 0 :: Value.int IntKind.u8 0 :: Value.int IntKind.u8 0 :: Value.int IntKind.u8 0 :: Value.int IntKind.u8 0 :: Value.int IntKind.u8 0 :: Value.int IntKind.u8 0 :: Value.int IntKind.u8 0 :: Value.int IntKind.u8 0 :: Value.int IntKind.u8 0 :: Value.int IntKind.u8 0 :: Value.int IntKind.u8 0 :: Value.int IntKind.u8 0 :: []).toArray) := fun _ => by kernel_rfl
theorem zer344 : Zer Tryz.prog 344 (.agg #[Value.int IntKind.i64 0, Value.int IntKind.i64 0]) := fun _ => by kernel_rfl
theorem zer347 : Zer Tryz.prog 347 (.agg #[Value.int IntKind.u8 0]) := fun _ => by kernel_rfl
theorem zer364 : Zer Tryz.prog 364 (.agg #[Value.int IntKind.u8 0, Value.int IntKind.u8 0, Value.int IntKind.u8 0, Value.int IntKind.u8 0]) := fun _ => by kernel_rfl
theorem zer384 : Zer Tryz.prog 384 (.agg #[Value.int IntKind.u8 0]) := fun _ => by kernel_rfl
theorem zer50 : Zer Tryz.prog 50 (.agg #[Value.slice none 0 0, Value.slice none 0 0, Value.slice none 0 0, Value.slice none 0 0]) := fun _ => by kernel_rfl
theorem zer51 : Zer Tryz.prog 51 (.agg (Value.slice none 0 0 :: Value.slice none 0 0 :: Value.slice none 0 0 :: Value.slice none 0 0 :: Value.slice none 0 0 :: Value.slice none 0 0 :: Value.slice none 0 0 :: Value.slice none 0 0 :: Value.slice none 0 0 :: Value.slice none 0 0 :: Value.slice none 0 0 :: Value.slice none 0 0 :: Value.slice none 0 0 :: Value.slice none 0 0 :: []).toArray) := fun _ => by kernel_rfl
theorem zer54 : Zer Tryz.prog 54 (.agg #[Value.int IntKind.i64 0, Value.int IntKind.i64 0, Value.int IntKind.i64 0, Value.int IntKind.i64 0]) := fun _ => by kernel_rfl
theorem zer78 : Zer Tryz.prog 78 (.agg #[Value.bool false, Value.bool false, Value.bool false, Value.bool false, Value.bool false, Value.bool false, Value.bool false, Value.bool false]) := fun _ => by kernel_rfl
theorem zer79 : Zer Tryz.prog 79 (.agg #[Value.int IntKind.u64 0, Value.int IntKind.u64 0, Value.int IntKind.u64 0, Value.int IntKind.u64 0, Value.int IntKind.u64 0, Value.int IntKind.u64 0, Value.int IntKind.u64 0, Value.int IntKind.u64 0]) := fun _ => by kernel_rfl
end Go.Proofs.YtfpepghmbeoanaaGreatDoor
end

section
open Go Go.RowKit
namespace Go.Proofs.YtfpepghmbeoanaaGreatDoor

/-- A slice value that owns a row of one-cell elements of type e from the head of its block on: it reads as xs. -/
def Row (e : TypeId) (v : Value) (xs : List Value) : Asn := fun h =>
  (v = .slice none 0 0 ∧ xs = []) ∨ ∃ b cap cur, v = .slice (some ⟨b, 0, none⟩) xs.length cap ∧ xs.length ≤ cap ∧ cap < 9223372036854775808 ∧ cur.size = cap ∧ cur.toList.take xs.length = xs ∧ cel b e cur h

section
variable {P : Program} {G : Gst} {ops : Array Oper} {Q : Exit → Act → World → Prop} {n : Nat} {base : Nat → Value} {L : List (Nat × Value)} {D : List Deferred} {As r : List Asn}
  {ty : TypeId} {pos : String} {aft : Array Edge} {rest : List Oper}

theorem JO.as {A A' : Asn} {l : List Oper} (q : Pick A As r) (e : A = A') (k : JO P G ops Q l n base L D (A' :: r)) : JO P G ops Q l n base L D As := ⟨fun w hw => k.run w (e ▸ hw.pick q)⟩
theorem JX.as {A A' : Asn} {x : Exit} (q : Pick A As r) (e : A = A') (k : JX G Q x n base L D (A' :: r)) : JX G Q x n base L D As := ⟨fun w hw => k.run w (e ▸ hw.pick q)⟩
theorem JC.as {A A' : Asn} {c : Code} (q : Pick A As r) (e : A = A') (k : JC P G Q c n base L D (A' :: r)) : JC P G Q c n base L D As := ⟨fun w hw => k.run w (e ▸ hw.pick q)⟩
theorem cel_eq {b : Nat} {T : TypeId} {cs cs' : Array Value} (h : cs = cs') : cel b T cs = cel b T cs' := h ▸ rfl

/-- What is appended, or copied: m values, read off memory. -/
structure Src (P : Program) (G : Gst) (As : List Asn) (x : Value) (m : Nat) (news : List Value) : Prop where
  len : ∀ w, (Builtin.lenOf x).run P w = .ok m w
  cells : ∀ w, Sat G w As → (Builtin.firstCells 1 m x).run P w = .ok news.toArray w
  one : ∀ v ∈ news, v.oneCell' = true
  num : news.length = m
theorem Src.nil {x : Value} (hx : x = .slice none 0 0) : Src P G As x 0 [] := by
  subst hx
  exact ⟨fun w => rfl, fun w _ => rfl, by simp, rfl⟩
theorem Src.cel {x : Value} {b o m cap : Nat} {T : TypeId} {fr : Nat × Nat} {cs : Array Value} {news : List Value} (hx : x = .slice (some ⟨b, o, none⟩) m cap) (q : Pick (blk b (.cells cs T fr)) As r) (hm : o + m ≤ cs.size) (hn : (cs.extract o (o + m)).toList = news) (h1 : ∀ v ∈ news, v.oneCell' = true) :
    Src P G As x m news := by
  subst hx; subst hn
  refine ⟨fun w => rfl, fun w hw => ?_, h1, by simp; omega⟩
  have := run_loadCells (P := P) (hw.block_of q) o m hm
  simp only [Builtin.firstCells, Nat.mul_one, this]
theorem Src.lit {x : Value} {b cap m : Nat} {T : TypeId} {fr : Nat × Nat} {vs : List Value} (hx : x = .slice (some ⟨b, 0, none⟩) m cap) (q : Pick (blk b (.cells vs.toArray T fr)) As r) (hm : vs.length = m) (h1 : ∀ v ∈ vs, v.oneCell' = true) : Src P G As x m vs := by
  subst hm
  exact Src.cel hx q (by simp) (by simp) h1
theorem Src.row {x : Value} {e : TypeId} {xs : List Value} (q : Pick (Row e x xs) As r) (h1 : ∀ v ∈ xs, v.oneCell' = true) (hx : ∃ a m c, x = .slice a m c ∧ m = xs.length) : Src P G As x xs.length xs := by
  obtain ⟨a, m, c, rfl, rfl⟩ := hx
  refine ⟨fun w => rfl, fun w hw => ?_, h1, rfl⟩
  obtain ⟨h1, h2, hd, he, hA, _⟩ := (hw.pick q).mem
  rcases hA with ⟨hv, hxs⟩ | ⟨b, cap, cur, hv, hc, _, hs, hpre, hcel⟩
  · injection hv with e1 e2 e3
    subst e1; subst hxs; rfl
  · injection hv with e1 e2 e3
    subst e1
    have hb : w.heap[b]? = some (.cells cur e (0, 0)) := by
      have hk := congrFun he b
      have e4 : h1 b = some (.cells cur e (0, 0)) := by rw [hcel]; simp
      simp only [Hp.un, e4] at hk
      exact hk
    have := run_loadCells (P := P) hb 0 xs.length (by omega)
    simp only [Builtin.firstCells, Nat.mul_one, this, Nat.zero_add]
    congr 1
    apply Array.ext'
    simp [List.extract_eq_take_drop, hpre]

theorem nextcap_le {need old : Nat} (h : old < need) : Builtin.nextslicecap need old ≤ 2 * need + 10000 := by
  unfold Builtin.nextslicecap
  split
  · omega
  · split
    · omega
    · simp only [Builtin.growBy]
      repeat' split
      all_goals omega

/-- 'append(s, x...)': whatever s had room for. -/
theorem run_append {e t tx : TypeId} {z : Value} {bytes : Nat} (ht : P.underlying t = some (.slice e)) (htx : P.underlying tx = some (.slice e)) (he : Elm P e z bytes) {s x : Value} {xs news : List Value} {m : Nat} {w : World} (hw : Sat G w (Row e s xs :: r))
    (hs : Src P G (Row e s xs :: r) x m news) (hb : (xs.length + m) * bytes ≤ 1099511627776) (hby : 0 < bytes) (hby2 : bytes ≤ 32) (ty : TypeId) :
    ∃ v' w', (Builtin.append_ #[t, tx] ty #[s, x]).run P w = .ok v' w' ∧ Sat G w' (Row e v' (xs ++ news) :: r) := by
  have hmem := hw
  have hneed : (xs.length + m) ≤ 1099511627776 := Nat.le_trans (Nat.le_mul_of_pos_right _ hby) hb
  -- where the row lies
  have hrow : ∃ a cap, s = .slice a xs.length cap ∧ cap < 9223372036854775808 := by
    obtain ⟨h1, h2, _, _, hA, _⟩ := hw.mem
    rcases hA with ⟨hv, hxs⟩ | ⟨b, cap, cur, hv, hc, hlt, hs, hpre, hcel⟩
    · subst hxs; exact ⟨none, 0, hv, by omega⟩
    · exact ⟨_, cap, hv, hlt⟩
  obtain ⟨a, cap, hsv, hcap⟩ := hrow
  obtain ⟨i, hi, hib⟩ := he.byt w
  by_cases hfit : xs.length + m ≤ cap
  · -- there is room
    obtain ⟨h1, h2, hd, hh, hA, hl⟩ := hw.mem
    rcases hA with ⟨hv, hxs⟩ | ⟨b, cap', cur, hv, hc, hlt, hsz, hpre, hcel⟩
    · -- nil: nothing is appended
      rw [hsv] at hv
      injection hv with e1 e2 e3
      subst e1
      have hm0 : m = 0 := by omega
      have hn0 : news = [] := List.eq_nil_of_length_eq_zero (by rw [hs.num, hm0])
      refine ⟨.slice none 0 0, w, ?_, ?_⟩
      · subst hsv
        have h4 := hs.cells w hmem
        simp only [Builtin.append_, List.getElem?_toArray, List.getElem?_cons_zero, List.getElem?_cons_succ, Sem.run_bind, run_underlying ht, Result.andThen_ok, he.siz w, run_underlying htx, Bool.false_eq_true, if_false, hs.len w, hfit, if_true, Bool.not_false, h4, Sem.run_pure]
        simp [e2, e3, hm0]
      · subst hxs; subst hn0
        rw [hsv] at hmem
        have : Value.slice none ([] : List Value).length cap = .slice none 0 0 := by simp [e3]
        rw [this] at hmem; exact hmem
    · rw [hsv] at hv
      injection hv with e1 e2 e3
      subst e1
      have hsat : Sat G w (cel b e cur :: r) := ⟨hw.os, hw.tape, hw.output, h1, h2, hd, hh, hcel, hl⟩
      obtain ⟨w', hst, hw'⟩ := run_storeCells (P := P) news xs.length 0 hsat (by rw [hs.num]; omega) hs.one
      refine ⟨.slice (some ⟨b, 0, none⟩) (xs.length + m) cap, w', ?_, ?_⟩
      · subst hsv
        have h4 := hs.cells w hmem
        simp only [Builtin.append_, List.getElem?_toArray, List.getElem?_cons_zero, List.getElem?_cons_succ, Sem.run_bind, run_underlying ht, Result.andThen_ok, he.siz w, run_underlying htx, Bool.false_eq_true, if_false, hs.len w, hfit, if_true, Bool.not_false, h4, Sem.run_pure, Nat.mul_one, add_off, Nat.zero_add, hst]
      · obtain ⟨k1, k2, kd, kh, kc, kl⟩ := hw'.mem
        refine ⟨hw'.os, hw'.tape, hw'.output, k1, k2, kd, kh, .inr ⟨b, cap, _, by simp [hs.num], by simp [hs.num]; omega, hcap, ?_, ?_, kc⟩, kl⟩
        · rw [putAll_size]; omega
        · apply List.ext_getElem?
          intro k
          rw [List.getElem?_take]
          have hg := putAll_get news cur (xs.length + 0) k (by rw [hs.num]; omega)
          rw [Array.getElem?_toList, hg]
          simp only [Nat.add_zero, List.length_append]
          by_cases hk1 : k < xs.length
          · rw [if_pos (by omega), if_neg (by omega), List.getElem?_append_left hk1]
            have : xs[k]? = (cur.toList.take xs.length)[k]? := by rw [hpre]
            rw [this, List.getElem?_take, if_pos hk1]; simp
          · by_cases hk2 : k < xs.length + news.length
            · rw [if_pos hk2, if_pos (by omega), List.getElem?_append_right (by omega)]
            · rw [if_neg hk2]
              symm
              simp; omega
  · -- a new row
    have hq : ¬ ((Question.appendCap (xs.length + m) cap e).forced = true) := by simp [Question.forced]
    obtain ⟨nc, hnc⟩ : ∃ nc, nc = (Question.appendCap (xs.length + m) cap e).cut (w.tape w.drawn (.appendCap (xs.length + m) cap e)) := ⟨_, rfl⟩
    have hnc1 : xs.length + m ≤ nc ∧ nc < 9223372036854775808 := by
      rw [hnc]; simp only [Question.cut]
      have : w.tape w.drawn (.appendCap (xs.length + m) cap e) % (2 ^ 63 - (xs.length + m)) < 2 ^ 63 - (xs.length + m) := Nat.mod_lt _ (by omega)
      omega
    have hsat2 : Sat G { w with drawn := w.drawn + 1 } (Row e s xs :: r) := hw.drawn _
    have hold : (Builtin.firstCells 1 xs.length s).run P { w with drawn := w.drawn + 1 } = .ok xs.toArray { w with drawn := w.drawn + 1 } := by
      obtain ⟨h1, h2, hd, hh, hA, hl⟩ := hsat2.mem
      rcases hA with ⟨hv, hxs⟩ | ⟨b, cap', cur, hv, hc, hlt, hsz, hpre, hcel⟩
      · subst hv; subst hxs; rfl
      · subst hv
        have hb' : ({ w with drawn := w.drawn + 1 } : World).heap[b]? = some (.cells cur e (0, 0)) := by
          have hk := congrFun hh b
          have e4 : h1 b = some (.cells cur e (0, 0)) := by rw [hcel]; simp
          simp only [Hp.un, e4] at hk
          exact hk
        have := run_loadCells (P := P) hb' 0 xs.length (by omega)
        simp only [Builtin.firstCells, Nat.mul_one, this, Nat.zero_add]
        congr 1
        apply Array.ext'
        simp [List.extract_eq_take_drop, hpre]
    have hnew := hs.cells _ hsat2
    have hlim : ¬ (2 ^ 48 < Builtin.nextslicecap (xs.length + m) cap * i.bytes) := by
      have h1 := nextcap_le (need := xs.length + m) (old := cap) (by omega)
      have h2 : Builtin.nextslicecap (xs.length + m) cap * i.bytes ≤ (2 * (xs.length + m) + 10000) * bytes := by rw [hib]; exact Nat.mul_le_mul_right _ h1
      have h3 : (2 * (xs.length + m) + 10000) * bytes = 2 * ((xs.length + m) * bytes) + 10000 * bytes := by rw [Nat.add_mul, Nat.mul_assoc]
      have h4 : 10000 * bytes ≤ 320000 := by omega
      omega
    have hb0 : ¬ i.bytes = 0 := by omega
    refine ⟨.slice (some ⟨w.heap.size, 0, none⟩) (xs.length + m) nc, ({ w with drawn := w.drawn + 1 } : World).alloc (.cells (xs.toArray ++ news.toArray ++ Builtin.zeroCells z.cells (nc - (xs.length + m))) e), ?_, ?_⟩
    · subst hsv
      have e1 := he.siz w
      simp only [Builtin.append_, List.getElem?_toArray, List.getElem?_cons_zero, List.getElem?_cons_succ, Sem.run_bind, run_underlying ht, Result.andThen_ok, e1, run_underlying htx, Sem.run_pure, Bool.false_eq_true, if_false, hs.len w, hfit, Bool.not_false, hi, hb0, hlim, gt_iff_lt, false_or, and_false, run_choose, hq]
      have hz0 : (zeroValue e).run P { w with drawn := w.drawn + 1 } = .ok z _ := he.zer _
      simp only [← hnc, run_askRoom, Result.andThen_ok, hold, hnew, if_true, hz0, Sem.run_pure, newRow, Sem.run_bind, run_newObj, (show (typeInfo e).run P { w with drawn := w.drawn + 1 } = .ok i _ from by
        obtain ⟨j, hj, _⟩ := he.byt { w with drawn := w.drawn + 1 }
        have : j = i := by
          simp only [typeInfo, Sem.run_bind, run_program, Result.andThen_ok] at hi hj
          cases hx : P.info? e with
          | none => simp [hx] at hi
          | some y => simp [hx] at hi hj; rw [← hi, ← hj]
        rw [hj, this])]
      rfl
    · have := (hw.drawn (w.drawn + 1)).alloc (.cells (xs.toArray ++ news.toArray ++ Builtin.zeroCells z.cells (nc - (xs.length + m))) e)
      obtain ⟨k1, k2, kd, kh, kc, kl⟩ := this.mem
      have kl' := stars_drop kl
      refine ⟨this.os, this.tape, this.output, k1, k2, kd, kh, .inr ⟨w.heap.size, nc, _, by simp [hs.num], by simp [hs.num]; omega, hnc1.2, ?_, ?_, kc⟩, kl'⟩
      · have hz1 : z.cells.size = 1 := by rw [cells_one he.one]; rfl
        simp [Builtin.zeroCells, hz1, hs.num]; omega
      · have e9 : (xs.toArray ++ news.toArray ++ Builtin.zeroCells z.cells (nc - (xs.length + m))).toList = (xs ++ news) ++ (Builtin.zeroCells z.cells (nc - (xs.length + m))).toList := by simp
        rw [e9, List.take_left]

/-- A row's value is a slice of so many. -/
theorem Row.slice {w : World} {e : TypeId} {v : Value} {xs : List Value} (hw : Sat G w As) (q : Pick (Row e v xs) As r) : ∃ a c, v = .slice a xs.length c ∧ c < 9223372036854775808 := by
  obtain ⟨h1, h2, _, _, hA, _⟩ := (hw.pick q).mem
  rcases hA with ⟨hv, hxs⟩ | ⟨b, cap, cur, hv, hc, hlt, _⟩
  · subst hxs; exact ⟨none, 0, hv, by omega⟩
  · exact ⟨_, cap, hv, hlt⟩
/-- 'append(s, x...)'. -/
theorem JO.app {t e : TypeId} {d : Nat} {x y : Operand} {s u z : Value} {xs news : List Value} {m bytes : Nat} (ht : P.underlying t = some (.slice e)) (he : Elm P e z bytes) (hx : ev n base L x = s) (hy : ev n base L y = u) (q : Pick (Row e s xs) As r)
    (hs : Src P G (Row e s xs :: r) u m news) (hb : (xs.length + m) * bytes ≤ 1099511627776) (hby : 0 < bytes ∧ bytes ≤ 32)
    (k : ∀ v', v'.oneCell' = true → JO P G ops Q rest n base ((d, v') :: L) D (Row e v' (xs ++ news) :: r)) :
    JO P G ops Q (⟨some d, .call { callee := .builtin .append, args := #[x, y], argTypes := #[t, t] }, ty, pos, aft, none⟩ :: rest) n base L D As := by
  refine ⟨fun w hw => ?_⟩
  refine wpList_plain rfl fun K hK => ?_
  show Oper.upon P _ _ _ _ _
  obtain ⟨v', w', hr, hw'⟩ := run_append ht ht he (hw.pick q) hs hb hby.1 hby.2 ty
  have e : (execOp (frm n base L D).eval ⟨some d, .call { callee := .builtin .append, args := #[x, y], argTypes := #[t, t] }, ty, pos, aft, none⟩).run P w = .ok (.value v') w' := by
    rw [frm_eval]
    simp [execOp, resolve, Go.invoke, Go.builtin, hx, hy, hr]
  rw [e]
  show K _ _
  rw [show (frm n base L D).put _ _ = _ from frm_put d _]
  obtain ⟨a, c, hsl, _⟩ := Row.slice hw' Pick.here
  exact hK _ _ ((k v' (by rw [hsl]; rfl)).run w' hw')
theorem JO.rowV {e : TypeId} {v : Value} {xs : List Value} {l : List Oper} (q : Pick (Row e v xs) As r) (k : ∀ a c, v = .slice a xs.length c → c < 9223372036854775808 → JO P G ops Q l n base L D As) : JO P G ops Q l n base L D As :=
  ⟨fun w hw => let ⟨a, c, h, hc⟩ := Row.slice hw q; (k a c h hc).run w hw⟩
theorem JC.rowV {e : TypeId} {v : Value} {xs : List Value} {c : Code} (q : Pick (Row e v xs) As r) (k : ∀ a c', v = .slice a xs.length c' → c' < 9223372036854775808 → JC P G Q c n base L D As) : JC P G Q c n base L D As :=
  ⟨fun w hw => let ⟨a, c', h, hc⟩ := Row.slice hw q; (k a c' h hc).run w hw⟩
theorem JX.rowV {e : TypeId} {v : Value} {xs : List Value} {x : Exit} (q : Pick (Row e v xs) As r) (k : ∀ a c', v = .slice a xs.length c' → c' < 9223372036854775808 → JX G Q x n base L D As) : JX G Q x n base L D As :=
  ⟨fun w hw => let ⟨a, c', h, hc⟩ := Row.slice hw q; (k a c' h hc).run w hw⟩
end
end Go.Proofs.YtfpepghmbeoanaaGreatDoor
end

section
open Go Go.RowKit
set_option linter.unusedVariables false
namespace Go.Proofs.YtfpepghmbeoanaaGreatDoor

abbrev NoQ : Exit → Act → World → Prop := fun _ _ _ => False
/-- What a read rests on. -/
structure Pend where
  pos : Nat
  holds : World → Prop
section
variable {P : Program} {ops : Array Oper} {K : Act → World → Prop} {Q : Exit → Act → World → Prop}

theorem upon_noQ {o : Oper} {a : Act} {w : World} {Q' : Exit → Act → World → Prop} (hp : ∀ c a w, Q' (.panic c) a w → Q (.panic c) a w) (ho : LetsOut Q' → LetsOut Q) (h : o.wp P a w K Q') : o.wp P a w K Q := by
  unfold Oper.wp at *
  generalize (execOp a.eval o).run P w = r at *
  cases r with
  | ok n w' =>
    cases n <;> simp only [Oper.upon] at h ⊢
    case enter f args =>
      refine Calls.mono h fun e w'' he => ?_
      cases e with
      | returned u => exact he
      | panicked c => exact hp _ _ _ he
      | outgrown => exact ho he
    all_goals exact h
  | halt x w' =>
    cases x <;> simp only [Oper.upon] at h ⊢
    case panic u => exact hp _ _ _ h
theorem letsOut_noQ : ¬ LetsOut NoQ := fun ⟨_, _, h⟩ => h

/-- The rest of a region in every order; J holds of the world whenever those are listed. -/
def wpAnyJ (P : Program) (ops : Array Oper) (Q : Exit → Act → World → Prop) (J : Array Bool → World → Prop) : Nat → Array Bool → Act → World → Prop
  | 0, listed, a, w => J listed w ∧ Region.ready .any ops listed = [] ∧ Q .normal a w
  | f + 1, listed, a, w => J listed w ∧ (Region.ready .any ops listed = [] → Q .normal a w) ∧ ∀ i ∈ Region.ready .any ops listed, wpOp P ops NoQ i (wpAnyJ P ops Q J f (listed.setIfInBounds i true)) a w
theorem wpAnyJ_J {J : Array Bool → World → Prop} {f : Nat} {listed : Array Bool} {a : Act} {w : World} (h : wpAnyJ P ops Q J f listed a w) : J listed w := by
  cases f <;> exact h.1
theorem wpOp_noQ {i : Nat} {a : Act} {w : World} (h : wpOp P ops NoQ i K a w) : wpOp P ops Q i K a w := by
  unfold wpOp at *
  split
  · simp only [*] at h; exact h
  · rename_i o ho
    simp only [ho] at h
    split
    · rename_i hw
      simp only [hw, if_true] at h
      rcases h with h | h
      · exact .inl (upon_noQ (fun _ _ _ h => h.elim) (fun h => (letsOut_noQ h).elim) h)
      · exact (letsOut_noQ h.2).elim
    · rename_i hw; simp only [hw] at h; exact h
theorem wpAny_of_J {J : Array Bool → World → Prop} : ∀ (f : Nat) (listed : Array Bool) (a : Act) (w : World), wpAnyJ P ops Q J f listed a w → wpAny P .any ops Q f listed a w
  | 0, _, _, _, h => ⟨h.2.1, h.2.2⟩
  | f + 1, _, _, _, h => ⟨h.2.1, fun i hi => wpOp_mono (fun a w => wpAny_of_J f _ a w) (wpOp_noQ (h.2.2 i hi))⟩
theorem wpAnyJ_mono {J J' : Array Bool → World → Prop} {e : Nat} (hJ : ∀ l w, l.getD e false = true → J l w → J' l w) : ∀ (f : Nat) (listed : Array Bool) (a : Act) (w : World), listed.getD e false = true → wpAnyJ P ops Q J f listed a w → wpAnyJ P ops Q J' f listed a w
  | 0, _, _, _, hl, h => ⟨hJ _ _ hl h.1, h.2⟩
  | f + 1, _, _, _, hl, h => ⟨hJ _ _ hl h.1, h.2.1, fun i hi => wpOp_mono (fun a w => wpAnyJ_mono hJ f _ a w (getD_set_true hl)) (h.2.2 i hi)⟩

/-- What is listed holds all that it waits for. -/
structure Clo (ops : Array Oper) (listed : Array Bool) : Prop where
  size : listed.size = ops.size
  clo : ∀ j oj, ops[j]? = some oj → listed.getD j false = true → ∀ e ∈ oj.after, Region.binds .any e = true → listed.getD e.on false = true
theorem Clo.set {i : Nat} {listed : Array Bool} (inv : Clo ops listed) (hi : i ∈ Region.ready .any ops listed) : Clo ops (listed.setIfInBounds i true) := by
  obtain ⟨_, oi, hoi, hall⟩ := mem_ready.1 hi
  refine ⟨by simp [inv.size], fun j oj hj hl e he hb => ?_⟩
  by_cases hij : i = j
  · subst hij
    have : oj = oi := Option.some.inj (hj.symm.trans hoi)
    subst this
    exact getD_set_true (hall e he hb)
  · rw [getD_set_ne false hij] at hl
    exact getD_set_true (inv.clo j oj hj hl e he hb)
/-- p is forced ahead of e. -/
def Forced (ops : Array Oper) (p e : Nat) : Prop := ∀ listed, Clo ops listed → listed.getD e false = true → listed.getD p false = true
theorem Forced.step {p e : Nat} (h : Region.waitsFor .any ops e p = true) : Forced ops p e := fun listed hc he => by
  obtain ⟨oj, hj, x, hx, hb, rfl⟩ := Region.waitsFor_spec h
  exact hc.clo e oj hj he x hx hb
theorem Forced.trans {p q e : Nat} (h : Forced ops p q) (k : Forced ops q e) : Forced ops p e := fun l hc he => h l hc (k l hc he)

def PendJ (ops : Array Oper) (bl : Array Bool) (pd : List Pend) (l : Array Bool) (w : World) : Prop :=
  ∀ p ∈ pd, (∀ e, l.getD e false = true → bl.getD e false = false → ¬ Forced ops p.pos e) → p.holds w

theorem putOp {j : Nat} {oi oj : Oper} {v : Value} {c : World → Prop} (hj : ops[j]? = some oj) (hap : oi.apart ops oj = true)
    (hsi : ∀ cs b, oi.op ≠ .select cs b) (hsj : ∀ cs b, oj.op ≠ .select cs b) {a : Act} {w : World}
    (hy : ∀ w, c w → YieldsAt P ops w oi v a) (h : wpOp P ops NoQ j K (a.put oi.dst v) w) :
    wpOp P ops NoQ j (fun a' w' => (∀ w, c w → YieldsAt P ops w oi v a') ∧ K (a'.put oi.dst v) w') a w := by
  obtain ⟨h1, h2, h3⟩ := Oper.apart_spec hap
  have keep : ∀ (a : Act), (∀ w, c w → YieldsAt P ops w oi v a) → ∀ u, ∀ w, c w → YieldsAt P ops w oi v (a.put oj.dst u) := fun a hy u w hc =>
    (hy w hc).of_same (execOp_put oi hsi a oj.dst u h3) (wanted_put oi a oj.dst u h3)
  have keepD : ∀ d, ∀ w, c w → YieldsAt P ops w oi v { a with defers := d :: a.defers } := fun d w hc => (hy w hc).of_same rfl rfl
  unfold wpOp at *
  simp only [hj] at *
  rw [wanted_put oj a oi.dst v h1] at h
  split
  · rename_i hw
    simp only [hw, if_true] at h
    rcases h with h | ⟨_, hlets⟩
    case inr => exact (letsOut_noQ hlets).elim
    refine .inl ?_
    unfold Oper.wp at *
    rw [execOp_put oj hsj a oi.dst v h1] at h
    generalize (execOp a.eval oj).run P w = r at *
    cases r with
    | ok n w' =>
      cases n <;> simp only [Oper.upon] at h ⊢
      case value u => exact ⟨keep a hy u, by rw [← Act.put_comm a v u h2]; exact h⟩
      case skip => exact ⟨keep a hy _, by rw [← Act.put_comm a v undef h2]; exact h⟩
      case defer d =>
        refine ⟨keep _ (keepD d) _, ?_⟩
        rw [← Act.put_comm _ v undef h2, ← Act.put_defers]
        exact h
      case enter f args =>
        refine Calls.mono h fun e w'' he => ?_
        cases e with
        | returned u => exact ⟨keep a hy u, by rw [← Act.put_comm a v u h2]; exact he⟩
        | panicked c => exact he
        | outgrown => exact he
      case row row args => exact Rows.mono h fun u w'' he => ⟨keep a hy u, by rw [← Act.put_comm a v u h2]; exact he⟩
    | halt x w' =>
      cases x <;> simp only [Oper.upon] at h ⊢
      case panic u => exact h
  · rename_i hw
    simp only [hw] at h
    exact ⟨keep a hy _, by rw [← Act.put_comm a v undef h2]; exact h⟩

theorem yields_op {i : Nat} {o : Oper} {v : Value} {a : Act} {w : World} (hi : ops[i]? = some o) (hy : YieldsAt P ops w o v a) (h : K (a.put o.dst v) w) : wpOp P ops NoQ i K a w :=
  wpOp_of_stOp (K := fun a' => K a' w) (fun _ h => h) (hy.stOp hi h)

theorem set_eq_true {l : Array Bool} {i : Nat} (h : i < l.size) : (l.setIfInBounds i true).getD i false = true := by simp [h]
/-- What only reads may go first. -/
theorem mix_first {i : Nat} {oi : Oper} {v : Value} {c : World → Prop} {bl : Array Bool} {pd : List Pend} (hi : ops[i]? = some oi) (hsel : Region.noSelect ops = true) (hbi : bl.getD i false = false) (hbz : bl.size = ops.size) :
    ∀ (f : Nat) (listed : Array Bool) (a : Act) (w : World), Clo ops listed →
      (∀ j oj, ops[j]? = some oj → j ≠ i → listed.getD j true = false → (∀ e ∈ oj.after, Region.binds .any e = true → e.on ≠ i) → oi.apart ops oj = true) →
      i ∈ Region.ready .any ops listed → (∀ w, c w → YieldsAt P ops w oi v a) →
      wpAnyJ P ops Q (PendJ ops (bl.setIfInBounds i true) (⟨i, c⟩ :: pd)) f (listed.setIfInBounds i true) (a.put oi.dst v) w → wpAnyJ P ops Q (PendJ ops bl pd) (f + 1) listed a w := by
  have hisz : i < ops.size := (Array.getElem?_eq_some_iff.1 hi).1
  have hnot : ∀ e, (bl.setIfInBounds i true).getD e false = false → e ≠ i := fun e hb he => by
    subst he; rw [set_eq_true (by omega)] at hb; cases hb
  have hJ2 : ∀ l w, PendJ ops (bl.setIfInBounds i true) (⟨i, c⟩ :: pd) l w → PendJ ops bl pd l w := fun l w h p hp hc =>
    h p (List.mem_cons_of_mem _ hp) fun e he hb => hc e he (by rw [getD_set_ne false (Ne.symm (hnot e hb))] at hb; exact hb)
  have hpre : ∀ (f : Nat) (listed : Array Bool) (a : Act) (w : World), Clo ops listed → i ∈ Region.ready .any ops listed →
      wpAnyJ P ops Q (PendJ ops (bl.setIfInBounds i true) (⟨i, c⟩ :: pd)) f (listed.setIfInBounds i true) (a.put oi.dst v) w → c w ∧ PendJ ops bl pd listed w := by
    intro f listed a w hcl hr H
    have H0 := wpAnyJ_J H
    have hun := (mem_ready.1 hr).1
    constructor
    · refine H0 ⟨i, c⟩ (by simp) fun e he hb hf => ?_
      rw [getD_set_ne false (Ne.symm (hnot e hb))] at he
      have := hf listed hcl he
      rw [getD_both hun] at this; cases this
    · intro p hp hc
      refine H0 p (List.mem_cons_of_mem _ hp) fun e he hb => ?_
      have hne := Ne.symm (hnot e hb)
      rw [getD_set_ne false hne] at he hb
      exact hc e he hb
  have hnext : ∀ (listed : Array Bool) (j : Nat), i ∈ Region.ready .any ops listed → j ∈ Region.ready .any ops listed → ∃ oj, ops[j]? = some oj ∧ ∀ e ∈ oj.after, Region.binds .any e = true → e.on ≠ i := by
    intro listed j hr hj
    obtain ⟨hjun, oj, hoj, hall⟩ := mem_ready.1 hj
    refine ⟨oj, hoj, fun e he hb heq => ?_⟩
    have h1 := hall e he hb
    rw [heq, getD_both (mem_ready.1 hr).1] at h1
    cases h1
  have hall1 : ∀ (J : Array Bool → World → Prop) (f : Nat) (l : Array Bool) (a : Act) (w : World), i < l.size → l.getD i false = true → wpAnyJ P ops Q (PendJ ops (bl.setIfInBounds i true) (⟨i, c⟩ :: pd)) f l a w → wpAnyJ P ops Q (PendJ ops bl pd) f l a w :=
    fun _ f l a w hl hli h => wpAnyJ_mono (e := i) (fun l w _ h => hJ2 l w h) f l a w hli h
  intro f
  induction f with
  | zero =>
    intro listed a w hcl _ hr hy H
    obtain ⟨hc, hJ⟩ := hpre 0 listed a w hcl hr H
    have hisz' : i < listed.size := by rw [hcl.size]; exact hisz
    refine ⟨hJ, fun h => (by rw [h] at hr; cases hr), fun j hj => ?_⟩
    by_cases hji : j = i
    · subst hji; exact yields_op hi (hy w hc) (hall1 (fun _ _ => True) 0 _ _ _ (by simpa using hisz') (set_eq_true hisz') H)
    · have := ready_mono hj hji
      rw [H.2.1] at this
      cases this
  | succ f ih =>
    intro listed a w hcl hfree hr hy H
    obtain ⟨hc, hJ⟩ := hpre (f + 1) listed a w hcl hr H
    have hisz' : i < listed.size := by rw [hcl.size]; exact hisz
    refine ⟨hJ, fun h => (by rw [h] at hr; cases hr), fun j hj => ?_⟩
    by_cases hji : j = i
    · subst hji; exact yields_op hi (hy w hc) (hall1 (fun _ _ => True) (f + 1) _ _ _ (by simpa using hisz') (set_eq_true hisz') H)
    · have h1 := H.2.2 j (ready_mono hj hji)
      have hjun := (mem_ready.1 hj).1
      obtain ⟨oj, hoj, hno⟩ := hnext listed j hr hj
      have h2 := putOp hoj (hfree j oj hoj hji hjun hno) (fun cs b => Region.noSelect_spec hsel i oi cs b hi) (fun cs b => Region.noSelect_spec hsel j oj cs b hoj) hy h1
      have hfree' : ∀ k ok, ops[k]? = some ok → k ≠ i → (listed.setIfInBounds j true).getD k true = false →
          (∀ e ∈ ok.after, Region.binds .any e = true → e.on ≠ i) → oi.apart ops ok = true := fun k ok hk hki hun hno => by
        refine hfree k ok hk hki ?_ hno
        by_cases hjk : j = k
        · subst hjk; exact hjun
        · rw [getD_set_ne true hjk] at hun; exact hun
      refine wpOp_mono (fun a' w' h3 => ih (listed.setIfInBounds j true) a' w' (hcl.set hj) hfree' (ready_mono hr (Ne.symm hji)) h3.1 ?_) h2
      rw [Array.setIfInBounds_comm _ _ hji]
      exact h3.2

/-- One order: what only reads as early as may be, what turns memory when nothing else is left to do. -/
def okM (ops : Array Oper) : List (Nat × Bool) → Array Bool → Bool
  | [], listed => (Region.ready .any ops listed).isEmpty
  | (i, true) :: s, listed => (Region.ready .any ops listed).contains i && Region.free .any ops listed i && okM ops s (listed.setIfInBounds i true)
  | (i, false) :: s, listed => decide (Region.ready .any ops listed = [i]) && okM ops s (listed.setIfInBounds i true)
def wpMix (P : Program) (ops : Array Oper) (Q : Exit → Act → World → Prop) : List (Nat × Bool) → List Pend → Act → World → Prop
  | [], _, a, w => Q .normal a w
  | (i, true) :: s, pd, a, w => ∃ o v c, ops[i]? = some o ∧ (∀ w', c w' → YieldsAt P ops w' o v a) ∧ c w ∧ (((∀ w, c w) ∧ wpMix P ops Q s pd (a.put o.dst v) w) ∨ wpMix P ops Q s (⟨i, c⟩ :: pd) (a.put o.dst v) w)
  | (i, false) :: s, pd, a, w => wpOp P ops NoQ i (fun a' w' => ∃ pd', (∀ p ∈ pd, p ∈ pd' ∨ Forced ops p.pos i) ∧ (∀ p ∈ pd', p.holds w') ∧ wpMix P ops Q s pd' a' w') a w
theorem mix_any (hsel : Region.noSelect ops = true) : ∀ (s : List (Nat × Bool)) (pd : List Pend) (listed : Array Bool) (a : Act) (w : World), Clo ops listed → okM ops s listed = true → (∀ p ∈ pd, p.holds w) →
    wpMix P ops Q s pd a w → wpAnyJ P ops Q (PendJ ops listed pd) s.length listed a w
  | [], pd, listed, a, w, _, hok, hp, h => ⟨fun p hpd _ => hp p hpd, by simpa [okM] using hok, h⟩
  | (i, true) :: s, pd, listed, a, w, hcl, hok, hp, h => by
    obtain ⟨o, v, c, hi, hy, hc, hm⟩ := h
    simp only [okM, Bool.and_eq_true] at hok
    obtain ⟨⟨hr, hf⟩, hok'⟩ := hok
    have hr' : i ∈ Region.ready .any ops listed := by simpa using hr
    refine mix_first hi hsel (getD_both (mem_ready.1 hr').1) hcl.size _ _ _ _ hcl (Region.free_spec hi hf) hr' hy ?_
    rcases hm with ⟨hc0, hm⟩ | hm
    · have hisz : i < listed.size := by rw [hcl.size]; exact (Array.getElem?_eq_some_iff.1 hi).1
      have := mix_any hsel s pd _ _ _ (hcl.set hr') hok' hp hm
      refine wpAnyJ_mono (e := i) (fun l w' _ hJ p hp' hcc => ?_) _ _ _ _ (set_eq_true hisz) this
      rcases List.mem_cons.1 hp' with rfl | h
      · exact hc0 w'
      · exact hJ p h hcc
    · exact mix_any hsel s (⟨i, c⟩ :: pd) _ _ _ (hcl.set hr') hok' (fun p hp' => by
        rcases List.mem_cons.1 hp' with rfl | h
        · exact hc
        · exact hp p h) hm
  | (i, false) :: s, pd, listed, a, w, hcl, hok, hp, h => by
    simp only [okM, Bool.and_eq_true, decide_eq_true_eq] at hok
    obtain ⟨hr, hok'⟩ := hok
    have hr' : i ∈ Region.ready .any ops listed := by rw [hr]; simp
    have hiz : i < listed.size := by
      obtain ⟨_, o, ho, _⟩ := mem_ready.1 hr'
      rw [hcl.size]; exact (Array.getElem?_eq_some_iff.1 ho).1
    have hun := getD_both (mem_ready.1 hr').1
    refine ⟨fun p hpd _ => hp p hpd, fun h0 => (by rw [h0] at hr; cases hr), fun j hj => ?_⟩
    rw [hr] at hj
    have hji : j = i := by simpa using hj
    subst hji
    refine wpOp_mono (fun a' w' hk => ?_) h
    obtain ⟨pd', hsub, hh, hm⟩ := hk
    have := mix_any hsel s pd' _ _ _ (hcl.set hr') hok' hh hm
    refine wpAnyJ_mono (e := j) (fun l w'' hl hJ => ?_) _ _ _ _ (set_eq_true hiz) this
    intro p hpd hc
    have hnf := hc j hl hun
    rcases hsub p hpd with h1 | h1
    · refine hJ p h1 fun e he hb => hc e he ?_
      by_cases hje : j = e
      · subst hje; exact hun
      · rw [getD_set_ne false hje] at hb; exact hb
    · exact absurd h1 hnf
theorem wp_region_mix {id : Nat} {a : Act} {w : World} {l : List Oper} (s : List (Nat × Bool)) (hm : P.follows .mixedOrders = true) (hB : (Region.noSelect l.toArray && Nat.beq s.length l.length && okM l.toArray s (Array.replicate l.length false)) = true)
    (h : wpMix P l.toArray Q s [] a { w with drawn := w.drawn + 1 }) : (Code.region id l.toArray true).wp P Q a w := by
  simp only [Bool.and_eq_true] at hB
  obtain ⟨⟨hsel, hlen⟩, hok⟩ := hB
  have hlen' : s.length = l.length := Nat.eq_of_beq_eq_true hlen
  refine wp_region_any hm ?_
  have := mix_any hsel s [] (Array.replicate l.length false) a _ ⟨by simp, fun j oj _ hl => (by rw [getD_replicate_false] at hl; cases hl)⟩ hok (by simp) h
  have := wpAny_of_J _ _ _ _ this
  rw [hlen'] at this
  simpa using this
end

/-! ### The judgement -/
/-- What stands at place i. -/
inductive At : List Oper → Nat → Oper → Prop
  | zero {o : Oper} {l : List Oper} : At (o :: l) 0 o
  | succ {o o' : Oper} {l : List Oper} {i : Nat} : At l i o → At (o' :: l) (i + 1) o
theorem Ao0 {o : Oper} {l : List Oper} : At (o :: l) 0 o := .zero
theorem Ao1 {o0 o : Oper} {l : List Oper} : At (o0 :: o :: l) 1 o := .succ (.zero)
theorem Ao2 {o0 o1 o : Oper} {l : List Oper} : At (o0 :: o1 :: o :: l) 2 o := .succ (.succ (.zero))
theorem Ao3 {o0 o1 o2 o : Oper} {l : List Oper} : At (o0 :: o1 :: o2 :: o :: l) 3 o := .succ (.succ (.succ (.zero)))
theorem Ao4 {o0 o1 o2 o3 o : Oper} {l : List Oper} : At (o0 :: o1 :: o2 :: o3 :: o :: l) 4 o := .succ (.succ (.succ (.succ (.zero))))
theorem Ao5 {o0 o1 o2 o3 o4 o : Oper} {l : List Oper} : At (o0 :: o1 :: o2 :: o3 :: o4 :: o :: l) 5 o := .succ (.succ (.succ (.succ (.succ (.zero)))))
theorem Ao6 {o0 o1 o2 o3 o4 o5 o : Oper} {l : List Oper} : At (o0 :: o1 :: o2 :: o3 :: o4 :: o5 :: o :: l) 6 o := .succ (.succ (.succ (.succ (.succ (.succ (.zero))))))
theorem Ao7 {o0 o1 o2 o3 o4 o5 o6 o : Oper} {l : List Oper} : At (o0 :: o1 :: o2 :: o3 :: o4 :: o5 :: o6 :: o :: l) 7 o := .succ (.succ (.succ (.succ (.succ (.succ (.succ (.zero)))))))
theorem Ao8 {o0 o1 o2 o3 o4 o5 o6 o7 o : Oper} {l : List Oper} : At (o0 :: o1 :: o2 :: o3 :: o4 :: o5 :: o6 :: o7 :: o :: l) 8 o := .succ (.succ (.succ (.succ (.succ (.succ (.succ (.succ (.zero))))))))
theorem Ao9 {o0 o1 o2 o3 o4 o5 o6 o7 o8 o : Oper} {l : List Oper} : At (o0 :: o1 :: o2 :: o3 :: o4 :: o5 :: o6 :: o7 :: o8 :: o :: l) 9 o := .succ (.succ (.succ (.succ (.succ (.succ (.succ (.succ (.succ (.zero)))))))))
theorem Ao10 {o0 o1 o2 o3 o4 o5 o6 o7 o8 o9 o : Oper} {l : List Oper} : At (o0 :: o1 :: o2 :: o3 :: o4 :: o5 :: o6 :: o7 :: o8 :: o9 :: o :: l) 10 o := .succ (.succ (.succ (.succ (.succ (.succ (.succ (.succ (.succ (.succ (.zero))))))))))
theorem Ao11 {o0 o1 o2 o3 o4 o5 o6 o7 o8 o9 o10 o : Oper} {l : List Oper} : At (o0 :: o1 :: o2 :: o3 :: o4 :: o5 :: o6 :: o7 :: o8 :: o9 :: o10 :: o :: l) 11 o := .succ (.succ (.succ (.succ (.succ (.succ (.succ (.succ (.succ (.succ (.succ (.zero)))))))))))
theorem Ao12 {o0 o1 o2 o3 o4 o5 o6 o7 o8 o9 o10 o11 o : Oper} {l : List Oper} : At (o0 :: o1 :: o2 :: o3 :: o4 :: o5 :: o6 :: o7 :: o8 :: o9 :: o10 :: o11 :: o :: l) 12 o := .succ (.succ (.succ (.succ (.succ (.succ (.succ (.succ (.succ (.succ (.succ (.succ (.zero))))))))))))
theorem Ao13 {o0 o1 o2 o3 o4 o5 o6 o7 o8 o9 o10 o11 o12 o : Oper} {l : List Oper} : At (o0 :: o1 :: o2 :: o3 :: o4 :: o5 :: o6 :: o7 :: o8 :: o9 :: o10 :: o11 :: o12 :: o :: l) 13 o := .succ (.succ (.succ (.succ (.succ (.succ (.succ (.succ (.succ (.succ (.succ (.succ (.succ (.zero)))))))))))))
theorem Ao14 {o0 o1 o2 o3 o4 o5 o6 o7 o8 o9 o10 o11 o12 o13 o : Oper} {l : List Oper} : At (o0 :: o1 :: o2 :: o3 :: o4 :: o5 :: o6 :: o7 :: o8 :: o9 :: o10 :: o11 :: o12 :: o13 :: o :: l) 14 o := .succ (.succ (.succ (.succ (.succ (.succ (.succ (.succ (.succ (.succ (.succ (.succ (.succ (.succ (.zero))))))))))))))
theorem Ao15 {o0 o1 o2 o3 o4 o5 o6 o7 o8 o9 o10 o11 o12 o13 o14 o : Oper} {l : List Oper} : At (o0 :: o1 :: o2 :: o3 :: o4 :: o5 :: o6 :: o7 :: o8 :: o9 :: o10 :: o11 :: o12 :: o13 :: o14 :: o :: l) 15 o := .succ (.succ (.succ (.succ (.succ (.succ (.succ (.succ (.succ (.succ (.succ (.succ (.succ (.succ (.succ (.zero)))))))))))))))
theorem Ao16 {o0 o1 o2 o3 o4 o5 o6 o7 o8 o9 o10 o11 o12 o13 o14 o15 o : Oper} {l : List Oper} : At (o0 :: o1 :: o2 :: o3 :: o4 :: o5 :: o6 :: o7 :: o8 :: o9 :: o10 :: o11 :: o12 :: o13 :: o14 :: o15 :: o :: l) 16 o := .succ (.succ (.succ (.succ (.succ (.succ (.succ (.succ (.succ (.succ (.succ (.succ (.succ (.succ (.succ (.succ (.zero))))))))))))))))
theorem Ao17 {o0 o1 o2 o3 o4 o5 o6 o7 o8 o9 o10 o11 o12 o13 o14 o15 o16 o : Oper} {l : List Oper} : At (o0 :: o1 :: o2 :: o3 :: o4 :: o5 :: o6 :: o7 :: o8 :: o9 :: o10 :: o11 :: o12 :: o13 :: o14 :: o15 :: o16 :: o :: l) 17 o := .succ (.succ (.succ (.succ (.succ (.succ (.succ (.succ (.succ (.succ (.succ (.succ (.succ (.succ (.succ (.succ (.succ (.zero)))))))))))))))))
theorem Ao18 {o0 o1 o2 o3 o4 o5 o6 o7 o8 o9 o10 o11 o12 o13 o14 o15 o16 o17 o : Oper} {l : List Oper} : At (o0 :: o1 :: o2 :: o3 :: o4 :: o5 :: o6 :: o7 :: o8 :: o9 :: o10 :: o11 :: o12 :: o13 :: o14 :: o15 :: o16 :: o17 :: o :: l) 18 o := .succ (.succ (.succ (.succ (.succ (.succ (.succ (.succ (.succ (.succ (.succ (.succ (.succ (.succ (.succ (.succ (.succ (.succ (.zero))))))))))))))))))
theorem Ao19 {o0 o1 o2 o3 o4 o5 o6 o7 o8 o9 o10 o11 o12 o13 o14 o15 o16 o17 o18 o : Oper} {l : List Oper} : At (o0 :: o1 :: o2 :: o3 :: o4 :: o5 :: o6 :: o7 :: o8 :: o9 :: o10 :: o11 :: o12 :: o13 :: o14 :: o15 :: o16 :: o17 :: o18 :: o :: l) 19 o := .succ (.succ (.succ (.succ (.succ (.succ (.succ (.succ (.succ (.succ (.succ (.succ (.succ (.succ (.succ (.succ (.succ (.succ (.succ (.zero)))))))))))))))))))
theorem Ao20 {o0 o1 o2 o3 o4 o5 o6 o7 o8 o9 o10 o11 o12 o13 o14 o15 o16 o17 o18 o19 o : Oper} {l : List Oper} : At (o0 :: o1 :: o2 :: o3 :: o4 :: o5 :: o6 :: o7 :: o8 :: o9 :: o10 :: o11 :: o12 :: o13 :: o14 :: o15 :: o16 :: o17 :: o18 :: o19 :: o :: l) 20 o := .succ (.succ (.succ (.succ (.succ (.succ (.succ (.succ (.succ (.succ (.succ (.succ (.succ (.succ (.succ (.succ (.succ (.succ (.succ (.succ (.zero))))))))))))))))))))
theorem Ao21 {o0 o1 o2 o3 o4 o5 o6 o7 o8 o9 o10 o11 o12 o13 o14 o15 o16 o17 o18 o19 o20 o : Oper} {l : List Oper} : At (o0 :: o1 :: o2 :: o3 :: o4 :: o5 :: o6 :: o7 :: o8 :: o9 :: o10 :: o11 :: o12 :: o13 :: o14 :: o15 :: o16 :: o17 :: o18 :: o19 :: o20 :: o :: l) 21 o := .succ (.succ (.succ (.succ (.succ (.succ (.succ (.succ (.succ (.succ (.succ (.succ (.succ (.succ (.succ (.succ (.succ (.succ (.succ (.succ (.succ (.zero)))))))))))))))))))))
theorem Ao22 {o0 o1 o2 o3 o4 o5 o6 o7 o8 o9 o10 o11 o12 o13 o14 o15 o16 o17 o18 o19 o20 o21 o : Oper} {l : List Oper} : At (o0 :: o1 :: o2 :: o3 :: o4 :: o5 :: o6 :: o7 :: o8 :: o9 :: o10 :: o11 :: o12 :: o13 :: o14 :: o15 :: o16 :: o17 :: o18 :: o19 :: o20 :: o21 :: o :: l) 22 o := .succ (.succ (.succ (.succ (.succ (.succ (.succ (.succ (.succ (.succ (.succ (.succ (.succ (.succ (.succ (.succ (.succ (.succ (.succ (.succ (.succ (.succ (.zero))))))))))))))))))))))
theorem Ao23 {o0 o1 o2 o3 o4 o5 o6 o7 o8 o9 o10 o11 o12 o13 o14 o15 o16 o17 o18 o19 o20 o21 o22 o : Oper} {l : List Oper} : At (o0 :: o1 :: o2 :: o3 :: o4 :: o5 :: o6 :: o7 :: o8 :: o9 :: o10 :: o11 :: o12 :: o13 :: o14 :: o15 :: o16 :: o17 :: o18 :: o19 :: o20 :: o21 :: o22 :: o :: l) 23 o := .succ (.succ (.succ (.succ (.succ (.succ (.succ (.succ (.succ (.succ (.succ (.succ (.succ (.succ (.succ (.succ (.succ (.succ (.succ (.succ (.succ (.succ (.succ (.zero)))))))))))))))))))))))
theorem Ao24 {o0 o1 o2 o3 o4 o5 o6 o7 o8 o9 o10 o11 o12 o13 o14 o15 o16 o17 o18 o19 o20 o21 o22 o23 o : Oper} {l : List Oper} : At (o0 :: o1 :: o2 :: o3 :: o4 :: o5 :: o6 :: o7 :: o8 :: o9 :: o10 :: o11 :: o12 :: o13 :: o14 :: o15 :: o16 :: o17 :: o18 :: o19 :: o20 :: o21 :: o22 :: o23 :: o :: l) 24 o := .succ (.succ (.succ (.succ (.succ (.succ (.succ (.succ (.succ (.succ (.succ (.succ (.succ (.succ (.succ (.succ (.succ (.succ (.succ (.succ (.succ (.succ (.succ (.succ (.zero))))))))))))))))))))))))
theorem Ao25 {o0 o1 o2 o3 o4 o5 o6 o7 o8 o9 o10 o11 o12 o13 o14 o15 o16 o17 o18 o19 o20 o21 o22 o23 o24 o : Oper} {l : List Oper} : At (o0 :: o1 :: o2 :: o3 :: o4 :: o5 :: o6 :: o7 :: o8 :: o9 :: o10 :: o11 :: o12 :: o13 :: o14 :: o15 :: o16 :: o17 :: o18 :: o19 :: o20 :: o21 :: o22 :: o23 :: o24 :: o :: l) 25 o := .succ (.succ (.succ (.succ (.succ (.succ (.succ (.succ (.succ (.succ (.succ (.succ (.succ (.succ (.succ (.succ (.succ (.succ (.succ (.succ (.succ (.succ (.succ (.succ (.succ (.zero)))))))))))))))))))))))))
theorem Ao26 {o0 o1 o2 o3 o4 o5 o6 o7 o8 o9 o10 o11 o12 o13 o14 o15 o16 o17 o18 o19 o20 o21 o22 o23 o24 o25 o : Oper} {l : List Oper} : At (o0 :: o1 :: o2 :: o3 :: o4 :: o5 :: o6 :: o7 :: o8 :: o9 :: o10 :: o11 :: o12 :: o13 :: o14 :: o15 :: o16 :: o17 :: o18 :: o19 :: o20 :: o21 :: o22 :: o23 :: o24 :: o25 :: o :: l) 26 o := .succ (.succ (.succ (.succ (.succ (.succ (.succ (.succ (.succ (.succ (.succ (.succ (.succ (.succ (.succ (.succ (.succ (.succ (.succ (.succ (.succ (.succ (.succ (.succ (.succ (.succ (.zero))))))))))))))))))))))))))
theorem Ao27 {o0 o1 o2 o3 o4 o5 o6 o7 o8 o9 o10 o11 o12 o13 o14 o15 o16 o17 o18 o19 o20 o21 o22 o23 o24 o25 o26 o : Oper} {l : List Oper} : At (o0 :: o1 :: o2 :: o3 :: o4 :: o5 :: o6 :: o7 :: o8 :: o9 :: o10 :: o11 :: o12 :: o13 :: o14 :: o15 :: o16 :: o17 :: o18 :: o19 :: o20 :: o21 :: o22 :: o23 :: o24 :: o25 :: o26 :: o :: l) 27 o := .succ (.succ (.succ (.succ (.succ (.succ (.succ (.succ (.succ (.succ (.succ (.succ (.succ (.succ (.succ (.succ (.succ (.succ (.succ (.succ (.succ (.succ (.succ (.succ (.succ (.succ (.succ (.zero)))))))))))))))))))))))))))
theorem Ao28 {o0 o1 o2 o3 o4 o5 o6 o7 o8 o9 o10 o11 o12 o13 o14 o15 o16 o17 o18 o19 o20 o21 o22 o23 o24 o25 o26 o27 o : Oper} {l : List Oper} : At (o0 :: o1 :: o2 :: o3 :: o4 :: o5 :: o6 :: o7 :: o8 :: o9 :: o10 :: o11 :: o12 :: o13 :: o14 :: o15 :: o16 :: o17 :: o18 :: o19 :: o20 :: o21 :: o22 :: o23 :: o24 :: o25 :: o26 :: o27 :: o :: l) 28 o := .succ (.succ (.succ (.succ (.succ (.succ (.succ (.succ (.succ (.succ (.succ (.succ (.succ (.succ (.succ (.succ (.succ (.succ (.succ (.succ (.succ (.succ (.succ (.succ (.succ (.succ (.succ (.succ (.zero))))))))))))))))))))))))))))
theorem Ao29 {o0 o1 o2 o3 o4 o5 o6 o7 o8 o9 o10 o11 o12 o13 o14 o15 o16 o17 o18 o19 o20 o21 o22 o23 o24 o25 o26 o27 o28 o : Oper} {l : List Oper} : At (o0 :: o1 :: o2 :: o3 :: o4 :: o5 :: o6 :: o7 :: o8 :: o9 :: o10 :: o11 :: o12 :: o13 :: o14 :: o15 :: o16 :: o17 :: o18 :: o19 :: o20 :: o21 :: o22 :: o23 :: o24 :: o25 :: o26 :: o27 :: o28 :: o :: l) 29 o := .succ (.succ (.succ (.succ (.succ (.succ (.succ (.succ (.succ (.succ (.succ (.succ (.succ (.succ (.succ (.succ (.succ (.succ (.succ (.succ (.succ (.succ (.succ (.succ (.succ (.succ (.succ (.succ (.succ (.zero)))))))))))))))))))))))))))))
theorem Ao30 {o0 o1 o2 o3 o4 o5 o6 o7 o8 o9 o10 o11 o12 o13 o14 o15 o16 o17 o18 o19 o20 o21 o22 o23 o24 o25 o26 o27 o28 o29 o : Oper} {l : List Oper} : At (o0 :: o1 :: o2 :: o3 :: o4 :: o5 :: o6 :: o7 :: o8 :: o9 :: o10 :: o11 :: o12 :: o13 :: o14 :: o15 :: o16 :: o17 :: o18 :: o19 :: o20 :: o21 :: o22 :: o23 :: o24 :: o25 :: o26 :: o27 :: o28 :: o29 :: o :: l) 30 o := .succ (.succ (.succ (.succ (.succ (.succ (.succ (.succ (.succ (.succ (.succ (.succ (.succ (.succ (.succ (.succ (.succ (.succ (.succ (.succ (.succ (.succ (.succ (.succ (.succ (.succ (.succ (.succ (.succ (.succ (.zero))))))))))))))))))))))))))))))
theorem Ao31 {o0 o1 o2 o3 o4 o5 o6 o7 o8 o9 o10 o11 o12 o13 o14 o15 o16 o17 o18 o19 o20 o21 o22 o23 o24 o25 o26 o27 o28 o29 o30 o : Oper} {l : List Oper} : At (o0 :: o1 :: o2 :: o3 :: o4 :: o5 :: o6 :: o7 :: o8 :: o9 :: o10 :: o11 :: o12 :: o13 :: o14 :: o15 :: o16 :: o17 :: o18 :: o19 :: o20 :: o21 :: o22 :: o23 :: o24 :: o25 :: o26 :: o27 :: o28 :: o29 :: o30 :: o :: l) 31 o := .succ (.succ (.succ (.succ (.succ (.succ (.succ (.succ (.succ (.succ (.succ (.succ (.succ (.succ (.succ (.succ (.succ (.succ (.succ (.succ (.succ (.succ (.succ (.succ (.succ (.succ (.succ (.succ (.succ (.succ (.succ (.zero)))))))))))))))))))))))))))))))
theorem Ao32 {o0 o1 o2 o3 o4 o5 o6 o7 o8 o9 o10 o11 o12 o13 o14 o15 o16 o17 o18 o19 o20 o21 o22 o23 o24 o25 o26 o27 o28 o29 o30 o31 o : Oper} {l : List Oper} : At (o0 :: o1 :: o2 :: o3 :: o4 :: o5 :: o6 :: o7 :: o8 :: o9 :: o10 :: o11 :: o12 :: o13 :: o14 :: o15 :: o16 :: o17 :: o18 :: o19 :: o20 :: o21 :: o22 :: o23 :: o24 :: o25 :: o26 :: o27 :: o28 :: o29 :: o30 :: o31 :: o :: l) 32 o := .succ (.succ (.succ (.succ (.succ (.succ (.succ (.succ (.succ (.succ (.succ (.succ (.succ (.succ (.succ (.succ (.succ (.succ (.succ (.succ (.succ (.succ (.succ (.succ (.succ (.succ (.succ (.succ (.succ (.succ (.succ (.succ (.zero))))))))))))))))))))))))))))))))
theorem Ao33 {o0 o1 o2 o3 o4 o5 o6 o7 o8 o9 o10 o11 o12 o13 o14 o15 o16 o17 o18 o19 o20 o21 o22 o23 o24 o25 o26 o27 o28 o29 o30 o31 o32 o : Oper} {l : List Oper} : At (o0 :: o1 :: o2 :: o3 :: o4 :: o5 :: o6 :: o7 :: o8 :: o9 :: o10 :: o11 :: o12 :: o13 :: o14 :: o15 :: o16 :: o17 :: o18 :: o19 :: o20 :: o21 :: o22 :: o23 :: o24 :: o25 :: o26 :: o27 :: o28 :: o29 :: o30 :: o31 :: o32 :: o :: l) 33 o := .succ (.succ (.succ (.succ (.succ (.succ (.succ (.succ (.succ (.succ (.succ (.succ (.succ (.succ (.succ (.succ (.succ (.succ (.succ (.succ (.succ (.succ (.succ (.succ (.succ (.succ (.succ (.succ (.succ (.succ (.succ (.succ (.succ (.zero)))))))))))))))))))))))))))))))))
theorem Ao34 {o0 o1 o2 o3 o4 o5 o6 o7 o8 o9 o10 o11 o12 o13 o14 o15 o16 o17 o18 o19 o20 o21 o22 o23 o24 o25 o26 o27 o28 o29 o30 o31 o32 o33 o : Oper} {l : List Oper} : At (o0 :: o1 :: o2 :: o3 :: o4 :: o5 :: o6 :: o7 :: o8 :: o9 :: o10 :: o11 :: o12 :: o13 :: o14 :: o15 :: o16 :: o17 :: o18 :: o19 :: o20 :: o21 :: o22 :: o23 :: o24 :: o25 :: o26 :: o27 :: o28 :: o29 :: o30 :: o31 :: o32 :: o33 :: o :: l) 34 o := .succ (.succ (.succ (.succ (.succ (.succ (.succ (.succ (.succ (.succ (.succ (.succ (.succ (.succ (.succ (.succ (.succ (.succ (.succ (.succ (.succ (.succ (.succ (.succ (.succ (.succ (.succ (.succ (.succ (.succ (.succ (.succ (.succ (.succ (.zero))))))))))))))))))))))))))))))))))
theorem Ao35 {o0 o1 o2 o3 o4 o5 o6 o7 o8 o9 o10 o11 o12 o13 o14 o15 o16 o17 o18 o19 o20 o21 o22 o23 o24 o25 o26 o27 o28 o29 o30 o31 o32 o33 o34 o : Oper} {l : List Oper} : At (o0 :: o1 :: o2 :: o3 :: o4 :: o5 :: o6 :: o7 :: o8 :: o9 :: o10 :: o11 :: o12 :: o13 :: o14 :: o15 :: o16 :: o17 :: o18 :: o19 :: o20 :: o21 :: o22 :: o23 :: o24 :: o25 :: o26 :: o27 :: o28 :: o29 :: o30 :: o31 :: o32 :: o33 :: o34 :: o :: l) 35 o := .succ (.succ (.succ (.succ (.succ (.succ (.succ (.succ (.succ (.succ (.succ (.succ (.succ (.succ (.succ (.succ (.succ (.succ (.succ (.succ (.succ (.succ (.succ (.succ (.succ (.succ (.succ (.succ (.succ (.succ (.succ (.succ (.succ (.succ (.succ (.zero)))))))))))))))))))))))))))))))))))
theorem Ao36 {o0 o1 o2 o3 o4 o5 o6 o7 o8 o9 o10 o11 o12 o13 o14 o15 o16 o17 o18 o19 o20 o21 o22 o23 o24 o25 o26 o27 o28 o29 o30 o31 o32 o33 o34 o35 o : Oper} {l : List Oper} : At (o0 :: o1 :: o2 :: o3 :: o4 :: o5 :: o6 :: o7 :: o8 :: o9 :: o10 :: o11 :: o12 :: o13 :: o14 :: o15 :: o16 :: o17 :: o18 :: o19 :: o20 :: o21 :: o22 :: o23 :: o24 :: o25 :: o26 :: o27 :: o28 :: o29 :: o30 :: o31 :: o32 :: o33 :: o34 :: o35 :: o :: l) 36 o := .succ (.succ (.succ (.succ (.succ (.succ (.succ (.succ (.succ (.succ (.succ (.succ (.succ (.succ (.succ (.succ (.succ (.succ (.succ (.succ (.succ (.succ (.succ (.succ (.succ (.succ (.succ (.succ (.succ (.succ (.succ (.succ (.succ (.succ (.succ (.succ (.zero))))))))))))))))))))))))))))))))))))
theorem Ao37 {o0 o1 o2 o3 o4 o5 o6 o7 o8 o9 o10 o11 o12 o13 o14 o15 o16 o17 o18 o19 o20 o21 o22 o23 o24 o25 o26 o27 o28 o29 o30 o31 o32 o33 o34 o35 o36 o : Oper} {l : List Oper} : At (o0 :: o1 :: o2 :: o3 :: o4 :: o5 :: o6 :: o7 :: o8 :: o9 :: o10 :: o11 :: o12 :: o13 :: o14 :: o15 :: o16 :: o17 :: o18 :: o19 :: o20 :: o21 :: o22 :: o23 :: o24 :: o25 :: o26 :: o27 :: o28 :: o29 :: o30 :: o31 :: o32 :: o33 :: o34 :: o35 :: o36 :: o :: l) 37 o := .succ (.succ (.succ (.succ (.succ (.succ (.succ (.succ (.succ (.succ (.succ (.succ (.succ (.succ (.succ (.succ (.succ (.succ (.succ (.succ (.succ (.succ (.succ (.succ (.succ (.succ (.succ (.succ (.succ (.succ (.succ (.succ (.succ (.succ (.succ (.succ (.succ (.zero)))))))))))))))))))))))))))))))))))))
theorem Ao38 {o0 o1 o2 o3 o4 o5 o6 o7 o8 o9 o10 o11 o12 o13 o14 o15 o16 o17 o18 o19 o20 o21 o22 o23 o24 o25 o26 o27 o28 o29 o30 o31 o32 o33 o34 o35 o36 o37 o : Oper} {l : List Oper} : At (o0 :: o1 :: o2 :: o3 :: o4 :: o5 :: o6 :: o7 :: o8 :: o9 :: o10 :: o11 :: o12 :: o13 :: o14 :: o15 :: o16 :: o17 :: o18 :: o19 :: o20 :: o21 :: o22 :: o23 :: o24 :: o25 :: o26 :: o27 :: o28 :: o29 :: o30 :: o31 :: o32 :: o33 :: o34 :: o35 :: o36 :: o37 :: o :: l) 38 o := .succ (.succ (.succ (.succ (.succ (.succ (.succ (.succ (.succ (.succ (.succ (.succ (.succ (.succ (.succ (.succ (.succ (.succ (.succ (.succ (.succ (.succ (.succ (.succ (.succ (.succ (.succ (.succ (.succ (.succ (.succ (.succ (.succ (.succ (.succ (.succ (.succ (.succ (.zero))))))))))))))))))))))))))))))))))))))
theorem Ao39 {o0 o1 o2 o3 o4 o5 o6 o7 o8 o9 o10 o11 o12 o13 o14 o15 o16 o17 o18 o19 o20 o21 o22 o23 o24 o25 o26 o27 o28 o29 o30 o31 o32 o33 o34 o35 o36 o37 o38 o : Oper} {l : List Oper} : At (o0 :: o1 :: o2 :: o3 :: o4 :: o5 :: o6 :: o7 :: o8 :: o9 :: o10 :: o11 :: o12 :: o13 :: o14 :: o15 :: o16 :: o17 :: o18 :: o19 :: o20 :: o21 :: o22 :: o23 :: o24 :: o25 :: o26 :: o27 :: o28 :: o29 :: o30 :: o31 :: o32 :: o33 :: o34 :: o35 :: o36 :: o37 :: o38 :: o :: l) 39 o := .succ (.succ (.succ (.succ (.succ (.succ (.succ (.succ (.succ (.succ (.succ (.succ (.succ (.succ (.succ (.succ (.succ (.succ (.succ (.succ (.succ (.succ (.succ (.succ (.succ (.succ (.succ (.succ (.succ (.succ (.succ (.succ (.succ (.succ (.succ (.succ (.succ (.succ (.succ (.zero)))))))))))))))))))))))))))))))))))))))
theorem Ao40 {o0 o1 o2 o3 o4 o5 o6 o7 o8 o9 o10 o11 o12 o13 o14 o15 o16 o17 o18 o19 o20 o21 o22 o23 o24 o25 o26 o27 o28 o29 o30 o31 o32 o33 o34 o35 o36 o37 o38 o39 o : Oper} {l : List Oper} : At (o0 :: o1 :: o2 :: o3 :: o4 :: o5 :: o6 :: o7 :: o8 :: o9 :: o10 :: o11 :: o12 :: o13 :: o14 :: o15 :: o16 :: o17 :: o18 :: o19 :: o20 :: o21 :: o22 :: o23 :: o24 :: o25 :: o26 :: o27 :: o28 :: o29 :: o30 :: o31 :: o32 :: o33 :: o34 :: o35 :: o36 :: o37 :: o38 :: o39 :: o :: l) 40 o := .succ (.succ (.succ (.succ (.succ (.succ (.succ (.succ (.succ (.succ (.succ (.succ (.succ (.succ (.succ (.succ (.succ (.succ (.succ (.succ (.succ (.succ (.succ (.succ (.succ (.succ (.succ (.succ (.succ (.succ (.succ (.succ (.succ (.succ (.succ (.succ (.succ (.succ (.succ (.succ (.zero))))))))))))))))))))))))))))))))))))))))
theorem Ao41 {o0 o1 o2 o3 o4 o5 o6 o7 o8 o9 o10 o11 o12 o13 o14 o15 o16 o17 o18 o19 o20 o21 o22 o23 o24 o25 o26 o27 o28 o29 o30 o31 o32 o33 o34 o35 o36 o37 o38 o39 o40 o : Oper} {l : List Oper} : At (o0 :: o1 :: o2 :: o3 :: o4 :: o5 :: o6 :: o7 :: o8 :: o9 :: o10 :: o11 :: o12 :: o13 :: o14 :: o15 :: o16 :: o17 :: o18 :: o19 :: o20 :: o21 :: o22 :: o23 :: o24 :: o25 :: o26 :: o27 :: o28 :: o29 :: o30 :: o31 :: o32 :: o33 :: o34 :: o35 :: o36 :: o37 :: o38 :: o39 :: o40 :: o :: l) 41 o := .succ (.succ (.succ (.succ (.succ (.succ (.succ (.succ (.succ (.succ (.succ (.succ (.succ (.succ (.succ (.succ (.succ (.succ (.succ (.succ (.succ (.succ (.succ (.succ (.succ (.succ (.succ (.succ (.succ (.succ (.succ (.succ (.succ (.succ (.succ (.succ (.succ (.succ (.succ (.succ (.succ (.zero)))))))))))))))))))))))))))))))))))))))))
theorem Ao42 {o0 o1 o2 o3 o4 o5 o6 o7 o8 o9 o10 o11 o12 o13 o14 o15 o16 o17 o18 o19 o20 o21 o22 o23 o24 o25 o26 o27 o28 o29 o30 o31 o32 o33 o34 o35 o36 o37 o38 o39 o40 o41 o : Oper} {l : List Oper} : At (o0 :: o1 :: o2 :: o3 :: o4 :: o5 :: o6 :: o7 :: o8 :: o9 :: o10 :: o11 :: o12 :: o13 :: o14 :: o15 :: o16 :: o17 :: o18 :: o19 :: o20 :: o21 :: o22 :: o23 :: o24 :: o25 :: o26 :: o27 :: o28 :: o29 :: o30 :: o31 :: o32 :: o33 :: o34 :: o35 :: o36 :: o37 :: o38 :: o39 :: o40 :: o41 :: o :: l) 42 o := .succ (.succ (.succ (.succ (.succ (.succ (.succ (.succ (.succ (.succ (.succ (.succ (.succ (.succ (.succ (.succ (.succ (.succ (.succ (.succ (.succ (.succ (.succ (.succ (.succ (.succ (.succ (.succ (.succ (.succ (.succ (.succ (.succ (.succ (.succ (.succ (.succ (.succ (.succ (.succ (.succ (.succ (.zero))))))))))))))))))))))))))))))))))))))))))
theorem Ao43 {o0 o1 o2 o3 o4 o5 o6 o7 o8 o9 o10 o11 o12 o13 o14 o15 o16 o17 o18 o19 o20 o21 o22 o23 o24 o25 o26 o27 o28 o29 o30 o31 o32 o33 o34 o35 o36 o37 o38 o39 o40 o41 o42 o : Oper} {l : List Oper} : At (o0 :: o1 :: o2 :: o3 :: o4 :: o5 :: o6 :: o7 :: o8 :: o9 :: o10 :: o11 :: o12 :: o13 :: o14 :: o15 :: o16 :: o17 :: o18 :: o19 :: o20 :: o21 :: o22 :: o23 :: o24 :: o25 :: o26 :: o27 :: o28 :: o29 :: o30 :: o31 :: o32 :: o33 :: o34 :: o35 :: o36 :: o37 :: o38 :: o39 :: o40 :: o41 :: o42 :: o :: l) 43 o := .succ (.succ (.succ (.succ (.succ (.succ (.succ (.succ (.succ (.succ (.succ (.succ (.succ (.succ (.succ (.succ (.succ (.succ (.succ (.succ (.succ (.succ (.succ (.succ (.succ (.succ (.succ (.succ (.succ (.succ (.succ (.succ (.succ (.succ (.succ (.succ (.succ (.succ (.succ (.succ (.succ (.succ (.succ (.zero)))))))))))))))))))))))))))))))))))))))))))
theorem Ao44 {o0 o1 o2 o3 o4 o5 o6 o7 o8 o9 o10 o11 o12 o13 o14 o15 o16 o17 o18 o19 o20 o21 o22 o23 o24 o25 o26 o27 o28 o29 o30 o31 o32 o33 o34 o35 o36 o37 o38 o39 o40 o41 o42 o43 o : Oper} {l : List Oper} : At (o0 :: o1 :: o2 :: o3 :: o4 :: o5 :: o6 :: o7 :: o8 :: o9 :: o10 :: o11 :: o12 :: o13 :: o14 :: o15 :: o16 :: o17 :: o18 :: o19 :: o20 :: o21 :: o22 :: o23 :: o24 :: o25 :: o26 :: o27 :: o28 :: o29 :: o30 :: o31 :: o32 :: o33 :: o34 :: o35 :: o36 :: o37 :: o38 :: o39 :: o40 :: o41 :: o42 :: o43 :: o :: l) 44 o := .succ (.succ (.succ (.succ (.succ (.succ (.succ (.succ (.succ (.succ (.succ (.succ (.succ (.succ (.succ (.succ (.succ (.succ (.succ (.succ (.succ (.succ (.succ (.succ (.succ (.succ (.succ (.succ (.succ (.succ (.succ (.succ (.succ (.succ (.succ (.succ (.succ (.succ (.succ (.succ (.succ (.succ (.succ (.succ (.zero))))))))))))))))))))))))))))))))))))))))))))
theorem Ao45 {o0 o1 o2 o3 o4 o5 o6 o7 o8 o9 o10 o11 o12 o13 o14 o15 o16 o17 o18 o19 o20 o21 o22 o23 o24 o25 o26 o27 o28 o29 o30 o31 o32 o33 o34 o35 o36 o37 o38 o39 o40 o41 o42 o43 o44 o : Oper} {l : List Oper} : At (o0 :: o1 :: o2 :: o3 :: o4 :: o5 :: o6 :: o7 :: o8 :: o9 :: o10 :: o11 :: o12 :: o13 :: o14 :: o15 :: o16 :: o17 :: o18 :: o19 :: o20 :: o21 :: o22 :: o23 :: o24 :: o25 :: o26 :: o27 :: o28 :: o29 :: o30 :: o31 :: o32 :: o33 :: o34 :: o35 :: o36 :: o37 :: o38 :: o39 :: o40 :: o41 :: o42 :: o43 :: o44 :: o :: l) 45 o := .succ (.succ (.succ (.succ (.succ (.succ (.succ (.succ (.succ (.succ (.succ (.succ (.succ (.succ (.succ (.succ (.succ (.succ (.succ (.succ (.succ (.succ (.succ (.succ (.succ (.succ (.succ (.succ (.succ (.succ (.succ (.succ (.succ (.succ (.succ (.succ (.succ (.succ (.succ (.succ (.succ (.succ (.succ (.succ (.succ (.zero)))))))))))))))))))))))))))))))))))))))))))))
theorem Ao46 {o0 o1 o2 o3 o4 o5 o6 o7 o8 o9 o10 o11 o12 o13 o14 o15 o16 o17 o18 o19 o20 o21 o22 o23 o24 o25 o26 o27 o28 o29 o30 o31 o32 o33 o34 o35 o36 o37 o38 o39 o40 o41 o42 o43 o44 o45 o : Oper} {l : List Oper} : At (o0 :: o1 :: o2 :: o3 :: o4 :: o5 :: o6 :: o7 :: o8 :: o9 :: o10 :: o11 :: o12 :: o13 :: o14 :: o15 :: o16 :: o17 :: o18 :: o19 :: o20 :: o21 :: o22 :: o23 :: o24 :: o25 :: o26 :: o27 :: o28 :: o29 :: o30 :: o31 :: o32 :: o33 :: o34 :: o35 :: o36 :: o37 :: o38 :: o39 :: o40 :: o41 :: o42 :: o43 :: o44 :: o45 :: o :: l) 46 o := .succ (.succ (.succ (.succ (.succ (.succ (.succ (.succ (.succ (.succ (.succ (.succ (.succ (.succ (.succ (.succ (.succ (.succ (.succ (.succ (.succ (.succ (.succ (.succ (.succ (.succ (.succ (.succ (.succ (.succ (.succ (.succ (.succ (.succ (.succ (.succ (.succ (.succ (.succ (.succ (.succ (.succ (.succ (.succ (.succ (.succ (.zero))))))))))))))))))))))))))))))))))))))))))))))
theorem Ao47 {o0 o1 o2 o3 o4 o5 o6 o7 o8 o9 o10 o11 o12 o13 o14 o15 o16 o17 o18 o19 o20 o21 o22 o23 o24 o25 o26 o27 o28 o29 o30 o31 o32 o33 o34 o35 o36 o37 o38 o39 o40 o41 o42 o43 o44 o45 o46 o : Oper} {l : List Oper} : At (o0 :: o1 :: o2 :: o3 :: o4 :: o5 :: o6 :: o7 :: o8 :: o9 :: o10 :: o11 :: o12 :: o13 :: o14 :: o15 :: o16 :: o17 :: o18 :: o19 :: o20 :: o21 :: o22 :: o23 :: o24 :: o25 :: o26 :: o27 :: o28 :: o29 :: o30 :: o31 :: o32 :: o33 :: o34 :: o35 :: o36 :: o37 :: o38 :: o39 :: o40 :: o41 :: o42 :: o43 :: o44 :: o45 :: o46 :: o :: l) 47 o := .succ (.succ (.succ (.succ (.succ (.succ (.succ (.succ (.succ (.succ (.succ (.succ (.succ (.succ (.succ (.succ (.succ (.succ (.succ (.succ (.succ (.succ (.succ (.succ (.succ (.succ (.succ (.succ (.succ (.succ (.succ (.succ (.succ (.succ (.succ (.succ (.succ (.succ (.succ (.succ (.succ (.succ (.succ (.succ (.succ (.succ (.succ (.zero)))))))))))))))))))))))))))))))))))))))))))))))
theorem Ao48 {o0 o1 o2 o3 o4 o5 o6 o7 o8 o9 o10 o11 o12 o13 o14 o15 o16 o17 o18 o19 o20 o21 o22 o23 o24 o25 o26 o27 o28 o29 o30 o31 o32 o33 o34 o35 o36 o37 o38 o39 o40 o41 o42 o43 o44 o45 o46 o47 o : Oper} {l : List Oper} : At (o0 :: o1 :: o2 :: o3 :: o4 :: o5 :: o6 :: o7 :: o8 :: o9 :: o10 :: o11 :: o12 :: o13 :: o14 :: o15 :: o16 :: o17 :: o18 :: o19 :: o20 :: o21 :: o22 :: o23 :: o24 :: o25 :: o26 :: o27 :: o28 :: o29 :: o30 :: o31 :: o32 :: o33 :: o34 :: o35 :: o36 :: o37 :: o38 :: o39 :: o40 :: o41 :: o42 :: o43 :: o44 :: o45 :: o46 :: o47 :: o :: l) 48 o := .succ (.succ (.succ (.succ (.succ (.succ (.succ (.succ (.succ (.succ (.succ (.succ (.succ (.succ (.succ (.succ (.succ (.succ (.succ (.succ (.succ (.succ (.succ (.succ (.succ (.succ (.succ (.succ (.succ (.succ (.succ (.succ (.succ (.succ (.succ (.succ (.succ (.succ (.succ (.succ (.succ (.succ (.succ (.succ (.succ (.succ (.succ (.succ (.zero))))))))))))))))))))))))))))))))))))))))))))))))
theorem Ao49 {o0 o1 o2 o3 o4 o5 o6 o7 o8 o9 o10 o11 o12 o13 o14 o15 o16 o17 o18 o19 o20 o21 o22 o23 o24 o25 o26 o27 o28 o29 o30 o31 o32 o33 o34 o35 o36 o37 o38 o39 o40 o41 o42 o43 o44 o45 o46 o47 o48 o : Oper} {l : List Oper} : At (o0 :: o1 :: o2 :: o3 :: o4 :: o5 :: o6 :: o7 :: o8 :: o9 :: o10 :: o11 :: o12 :: o13 :: o14 :: o15 :: o16 :: o17 :: o18 :: o19 :: o20 :: o21 :: o22 :: o23 :: o24 :: o25 :: o26 :: o27 :: o28 :: o29 :: o30 :: o31 :: o32 :: o33 :: o34 :: o35 :: o36 :: o37 :: o38 :: o39 :: o40 :: o41 :: o42 :: o43 :: o44 :: o45 :: o46 :: o47 :: o48 :: o :: l) 49 o := .succ (.succ (.succ (.succ (.succ (.succ (.succ (.succ (.succ (.succ (.succ (.succ (.succ (.succ (.succ (.succ (.succ (.succ (.succ (.succ (.succ (.succ (.succ (.succ (.succ (.succ (.succ (.succ (.succ (.succ (.succ (.succ (.succ (.succ (.succ (.succ (.succ (.succ (.succ (.succ (.succ (.succ (.succ (.succ (.succ (.succ (.succ (.succ (.succ (.zero)))))))))))))))))))))))))))))))))))))))))))))))))
theorem Ao50 {o0 o1 o2 o3 o4 o5 o6 o7 o8 o9 o10 o11 o12 o13 o14 o15 o16 o17 o18 o19 o20 o21 o22 o23 o24 o25 o26 o27 o28 o29 o30 o31 o32 o33 o34 o35 o36 o37 o38 o39 o40 o41 o42 o43 o44 o45 o46 o47 o48 o49 o : Oper} {l : List Oper} : At (o0 :: o1 :: o2 :: o3 :: o4 :: o5 :: o6 :: o7 :: o8 :: o9 :: o10 :: o11 :: o12 :: o13 :: o14 :: o15 :: o16 :: o17 :: o18 :: o19 :: o20 :: o21 :: o22 :: o23 :: o24 :: o25 :: o26 :: o27 :: o28 :: o29 :: o30 :: o31 :: o32 :: o33 :: o34 :: o35 :: o36 :: o37 :: o38 :: o39 :: o40 :: o41 :: o42 :: o43 :: o44 :: o45 :: o46 :: o47 :: o48 :: o49 :: o :: l) 50 o := .succ (.succ (.succ (.succ (.succ (.succ (.succ (.succ (.succ (.succ (.succ (.succ (.succ (.succ (.succ (.succ (.succ (.succ (.succ (.succ (.succ (.succ (.succ (.succ (.succ (.succ (.succ (.succ (.succ (.succ (.succ (.succ (.succ (.succ (.succ (.succ (.succ (.succ (.succ (.succ (.succ (.succ (.succ (.succ (.succ (.succ (.succ (.succ (.succ (.succ (.zero))))))))))))))))))))))))))))))))))))))))))))))))))
theorem Ao51 {o0 o1 o2 o3 o4 o5 o6 o7 o8 o9 o10 o11 o12 o13 o14 o15 o16 o17 o18 o19 o20 o21 o22 o23 o24 o25 o26 o27 o28 o29 o30 o31 o32 o33 o34 o35 o36 o37 o38 o39 o40 o41 o42 o43 o44 o45 o46 o47 o48 o49 o50 o : Oper} {l : List Oper} : At (o0 :: o1 :: o2 :: o3 :: o4 :: o5 :: o6 :: o7 :: o8 :: o9 :: o10 :: o11 :: o12 :: o13 :: o14 :: o15 :: o16 :: o17 :: o18 :: o19 :: o20 :: o21 :: o22 :: o23 :: o24 :: o25 :: o26 :: o27 :: o28 :: o29 :: o30 :: o31 :: o32 :: o33 :: o34 :: o35 :: o36 :: o37 :: o38 :: o39 :: o40 :: o41 :: o42 :: o43 :: o44 :: o45 :: o46 :: o47 :: o48 :: o49 :: o50 :: o :: l) 51 o := .succ (.succ (.succ (.succ (.succ (.succ (.succ (.succ (.succ (.succ (.succ (.succ (.succ (.succ (.succ (.succ (.succ (.succ (.succ (.succ (.succ (.succ (.succ (.succ (.succ (.succ (.succ (.succ (.succ (.succ (.succ (.succ (.succ (.succ (.succ (.succ (.succ (.succ (.succ (.succ (.succ (.succ (.succ (.succ (.succ (.succ (.succ (.succ (.succ (.succ (.succ (.zero)))))))))))))))))))))))))))))))))))))))))))))))))))
theorem Ao52 {o0 o1 o2 o3 o4 o5 o6 o7 o8 o9 o10 o11 o12 o13 o14 o15 o16 o17 o18 o19 o20 o21 o22 o23 o24 o25 o26 o27 o28 o29 o30 o31 o32 o33 o34 o35 o36 o37 o38 o39 o40 o41 o42 o43 o44 o45 o46 o47 o48 o49 o50 o51 o : Oper} {l : List Oper} : At (o0 :: o1 :: o2 :: o3 :: o4 :: o5 :: o6 :: o7 :: o8 :: o9 :: o10 :: o11 :: o12 :: o13 :: o14 :: o15 :: o16 :: o17 :: o18 :: o19 :: o20 :: o21 :: o22 :: o23 :: o24 :: o25 :: o26 :: o27 :: o28 :: o29 :: o30 :: o31 :: o32 :: o33 :: o34 :: o35 :: o36 :: o37 :: o38 :: o39 :: o40 :: o41 :: o42 :: o43 :: o44 :: o45 :: o46 :: o47 :: o48 :: o49 :: o50 :: o51 :: o :: l) 52 o := .succ (.succ (.succ (.succ (.succ (.succ (.succ (.succ (.succ (.succ (.succ (.succ (.succ (.succ (.succ (.succ (.succ (.succ (.succ (.succ (.succ (.succ (.succ (.succ (.succ (.succ (.succ (.succ (.succ (.succ (.succ (.succ (.succ (.succ (.succ (.succ (.succ (.succ (.succ (.succ (.succ (.succ (.succ (.succ (.succ (.succ (.succ (.succ (.succ (.succ (.succ (.succ (.zero))))))))))))))))))))))))))))))))))))))))))))))))))))
theorem Ao53 {o0 o1 o2 o3 o4 o5 o6 o7 o8 o9 o10 o11 o12 o13 o14 o15 o16 o17 o18 o19 o20 o21 o22 o23 o24 o25 o26 o27 o28 o29 o30 o31 o32 o33 o34 o35 o36 o37 o38 o39 o40 o41 o42 o43 o44 o45 o46 o47 o48 o49 o50 o51 o52 o : Oper} {l : List Oper} : At (o0 :: o1 :: o2 :: o3 :: o4 :: o5 :: o6 :: o7 :: o8 :: o9 :: o10 :: o11 :: o12 :: o13 :: o14 :: o15 :: o16 :: o17 :: o18 :: o19 :: o20 :: o21 :: o22 :: o23 :: o24 :: o25 :: o26 :: o27 :: o28 :: o29 :: o30 :: o31 :: o32 :: o33 :: o34 :: o35 :: o36 :: o37 :: o38 :: o39 :: o40 :: o41 :: o42 :: o43 :: o44 :: o45 :: o46 :: o47 :: o48 :: o49 :: o50 :: o51 :: o52 :: o :: l) 53 o := .succ (.succ (.succ (.succ (.succ (.succ (.succ (.succ (.succ (.succ (.succ (.succ (.succ (.succ (.succ (.succ (.succ (.succ (.succ (.succ (.succ (.succ (.succ (.succ (.succ (.succ (.succ (.succ (.succ (.succ (.succ (.succ (.succ (.succ (.succ (.succ (.succ (.succ (.succ (.succ (.succ (.succ (.succ (.succ (.succ (.succ (.succ (.succ (.succ (.succ (.succ (.succ (.succ (.zero)))))))))))))))))))))))))))))))))))))))))))))))))))))
theorem Ao54 {o0 o1 o2 o3 o4 o5 o6 o7 o8 o9 o10 o11 o12 o13 o14 o15 o16 o17 o18 o19 o20 o21 o22 o23 o24 o25 o26 o27 o28 o29 o30 o31 o32 o33 o34 o35 o36 o37 o38 o39 o40 o41 o42 o43 o44 o45 o46 o47 o48 o49 o50 o51 o52 o53 o : Oper} {l : List Oper} : At (o0 :: o1 :: o2 :: o3 :: o4 :: o5 :: o6 :: o7 :: o8 :: o9 :: o10 :: o11 :: o12 :: o13 :: o14 :: o15 :: o16 :: o17 :: o18 :: o19 :: o20 :: o21 :: o22 :: o23 :: o24 :: o25 :: o26 :: o27 :: o28 :: o29 :: o30 :: o31 :: o32 :: o33 :: o34 :: o35 :: o36 :: o37 :: o38 :: o39 :: o40 :: o41 :: o42 :: o43 :: o44 :: o45 :: o46 :: o47 :: o48 :: o49 :: o50 :: o51 :: o52 :: o53 :: o :: l) 54 o := .succ (.succ (.succ (.succ (.succ (.succ (.succ (.succ (.succ (.succ (.succ (.succ (.succ (.succ (.succ (.succ (.succ (.succ (.succ (.succ (.succ (.succ (.succ (.succ (.succ (.succ (.succ (.succ (.succ (.succ (.succ (.succ (.succ (.succ (.succ (.succ (.succ (.succ (.succ (.succ (.succ (.succ (.succ (.succ (.succ (.succ (.succ (.succ (.succ (.succ (.succ (.succ (.succ (.succ (.zero))))))))))))))))))))))))))))))))))))))))))))))))))))))
theorem Ao55 {o0 o1 o2 o3 o4 o5 o6 o7 o8 o9 o10 o11 o12 o13 o14 o15 o16 o17 o18 o19 o20 o21 o22 o23 o24 o25 o26 o27 o28 o29 o30 o31 o32 o33 o34 o35 o36 o37 o38 o39 o40 o41 o42 o43 o44 o45 o46 o47 o48 o49 o50 o51 o52 o53 o54 o : Oper} {l : List Oper} : At (o0 :: o1 :: o2 :: o3 :: o4 :: o5 :: o6 :: o7 :: o8 :: o9 :: o10 :: o11 :: o12 :: o13 :: o14 :: o15 :: o16 :: o17 :: o18 :: o19 :: o20 :: o21 :: o22 :: o23 :: o24 :: o25 :: o26 :: o27 :: o28 :: o29 :: o30 :: o31 :: o32 :: o33 :: o34 :: o35 :: o36 :: o37 :: o38 :: o39 :: o40 :: o41 :: o42 :: o43 :: o44 :: o45 :: o46 :: o47 :: o48 :: o49 :: o50 :: o51 :: o52 :: o53 :: o54 :: o :: l) 55 o := .succ (.succ (.succ (.succ (.succ (.succ (.succ (.succ (.succ (.succ (.succ (.succ (.succ (.succ (.succ (.succ (.succ (.succ (.succ (.succ (.succ (.succ (.succ (.succ (.succ (.succ (.succ (.succ (.succ (.succ (.succ (.succ (.succ (.succ (.succ (.succ (.succ (.succ (.succ (.succ (.succ (.succ (.succ (.succ (.succ (.succ (.succ (.succ (.succ (.succ (.succ (.succ (.succ (.succ (.succ (.zero)))))))))))))))))))))))))))))))))))))))))))))))))))))))
theorem Ao56 {o0 o1 o2 o3 o4 o5 o6 o7 o8 o9 o10 o11 o12 o13 o14 o15 o16 o17 o18 o19 o20 o21 o22 o23 o24 o25 o26 o27 o28 o29 o30 o31 o32 o33 o34 o35 o36 o37 o38 o39 o40 o41 o42 o43 o44 o45 o46 o47 o48 o49 o50 o51 o52 o53 o54 o55 o : Oper} {l : List Oper} : At (o0 :: o1 :: o2 :: o3 :: o4 :: o5 :: o6 :: o7 :: o8 :: o9 :: o10 :: o11 :: o12 :: o13 :: o14 :: o15 :: o16 :: o17 :: o18 :: o19 :: o20 :: o21 :: o22 :: o23 :: o24 :: o25 :: o26 :: o27 :: o28 :: o29 :: o30 :: o31 :: o32 :: o33 :: o34 :: o35 :: o36 :: o37 :: o38 :: o39 :: o40 :: o41 :: o42 :: o43 :: o44 :: o45 :: o46 :: o47 :: o48 :: o49 :: o50 :: o51 :: o52 :: o53 :: o54 :: o55 :: o :: l) 56 o := .succ (.succ (.succ (.succ (.succ (.succ (.succ (.succ (.succ (.succ (.succ (.succ (.succ (.succ (.succ (.succ (.succ (.succ (.succ (.succ (.succ (.succ (.succ (.succ (.succ (.succ (.succ (.succ (.succ (.succ (.succ (.succ (.succ (.succ (.succ (.succ (.succ (.succ (.succ (.succ (.succ (.succ (.succ (.succ (.succ (.succ (.succ (.succ (.succ (.succ (.succ (.succ (.succ (.succ (.succ (.succ (.zero))))))))))))))))))))))))))))))))))))))))))))))))))))))))
theorem Ao57 {o0 o1 o2 o3 o4 o5 o6 o7 o8 o9 o10 o11 o12 o13 o14 o15 o16 o17 o18 o19 o20 o21 o22 o23 o24 o25 o26 o27 o28 o29 o30 o31 o32 o33 o34 o35 o36 o37 o38 o39 o40 o41 o42 o43 o44 o45 o46 o47 o48 o49 o50 o51 o52 o53 o54 o55 o56 o : Oper} {l : List Oper} : At (o0 :: o1 :: o2 :: o3 :: o4 :: o5 :: o6 :: o7 :: o8 :: o9 :: o10 :: o11 :: o12 :: o13 :: o14 :: o15 :: o16 :: o17 :: o18 :: o19 :: o20 :: o21 :: o22 :: o23 :: o24 :: o25 :: o26 :: o27 :: o28 :: o29 :: o30 :: o31 :: o32 :: o33 :: o34 :: o35 :: o36 :: o37 :: o38 :: o39 :: o40 :: o41 :: o42 :: o43 :: o44 :: o45 :: o46 :: o47 :: o48 :: o49 :: o50 :: o51 :: o52 :: o53 :: o54 :: o55 :: o56 :: o :: l) 57 o := .succ (.succ (.succ (.succ (.succ (.succ (.succ (.succ (.succ (.succ (.succ (.succ (.succ (.succ (.succ (.succ (.succ (.succ (.succ (.succ (.succ (.succ (.succ (.succ (.succ (.succ (.succ (.succ (.succ (.succ (.succ (.succ (.succ (.succ (.succ (.succ (.succ (.succ (.succ (.succ (.succ (.succ (.succ (.succ (.succ (.succ (.succ (.succ (.succ (.succ (.succ (.succ (.succ (.succ (.succ (.succ (.succ (.zero)))))))))))))))))))))))))))))))))))))))))))))))))))))))))
theorem Ao58 {o0 o1 o2 o3 o4 o5 o6 o7 o8 o9 o10 o11 o12 o13 o14 o15 o16 o17 o18 o19 o20 o21 o22 o23 o24 o25 o26 o27 o28 o29 o30 o31 o32 o33 o34 o35 o36 o37 o38 o39 o40 o41 o42 o43 o44 o45 o46 o47 o48 o49 o50 o51 o52 o53 o54 o55 o56 o57 o : Oper} {l : List Oper} : At (o0 :: o1 :: o2 :: o3 :: o4 :: o5 :: o6 :: o7 :: o8 :: o9 :: o10 :: o11 :: o12 :: o13 :: o14 :: o15 :: o16 :: o17 :: o18 :: o19 :: o20 :: o21 :: o22 :: o23 :: o24 :: o25 :: o26 :: o27 :: o28 :: o29 :: o30 :: o31 :: o32 :: o33 :: o34 :: o35 :: o36 :: o37 :: o38 :: o39 :: o40 :: o41 :: o42 :: o43 :: o44 :: o45 :: o46 :: o47 :: o48 :: o49 :: o50 :: o51 :: o52 :: o53 :: o54 :: o55 :: o56 :: o57 :: o :: l) 58 o := .succ (.succ (.succ (.succ (.succ (.succ (.succ (.succ (.succ (.succ (.succ (.succ (.succ (.succ (.succ (.succ (.succ (.succ (.succ (.succ (.succ (.succ (.succ (.succ (.succ (.succ (.succ (.succ (.succ (.succ (.succ (.succ (.succ (.succ (.succ (.succ (.succ (.succ (.succ (.succ (.succ (.succ (.succ (.succ (.succ (.succ (.succ (.succ (.succ (.succ (.succ (.succ (.succ (.succ (.succ (.succ (.succ (.succ (.zero))))))))))))))))))))))))))))))))))))))))))))))))))))))))))
theorem Ao59 {o0 o1 o2 o3 o4 o5 o6 o7 o8 o9 o10 o11 o12 o13 o14 o15 o16 o17 o18 o19 o20 o21 o22 o23 o24 o25 o26 o27 o28 o29 o30 o31 o32 o33 o34 o35 o36 o37 o38 o39 o40 o41 o42 o43 o44 o45 o46 o47 o48 o49 o50 o51 o52 o53 o54 o55 o56 o57 o58 o : Oper} {l : List Oper} : At (o0 :: o1 :: o2 :: o3 :: o4 :: o5 :: o6 :: o7 :: o8 :: o9 :: o10 :: o11 :: o12 :: o13 :: o14 :: o15 :: o16 :: o17 :: o18 :: o19 :: o20 :: o21 :: o22 :: o23 :: o24 :: o25 :: o26 :: o27 :: o28 :: o29 :: o30 :: o31 :: o32 :: o33 :: o34 :: o35 :: o36 :: o37 :: o38 :: o39 :: o40 :: o41 :: o42 :: o43 :: o44 :: o45 :: o46 :: o47 :: o48 :: o49 :: o50 :: o51 :: o52 :: o53 :: o54 :: o55 :: o56 :: o57 :: o58 :: o :: l) 59 o := .succ (.succ (.succ (.succ (.succ (.succ (.succ (.succ (.succ (.succ (.succ (.succ (.succ (.succ (.succ (.succ (.succ (.succ (.succ (.succ (.succ (.succ (.succ (.succ (.succ (.succ (.succ (.succ (.succ (.succ (.succ (.succ (.succ (.succ (.succ (.succ (.succ (.succ (.succ (.succ (.succ (.succ (.succ (.succ (.succ (.succ (.succ (.succ (.succ (.succ (.succ (.succ (.succ (.succ (.succ (.succ (.succ (.succ (.succ (.zero)))))))))))))))))))))))))))))))))))))))))))))))))))))))))))
theorem At.get {l : List Oper} {i : Nat} {o : Oper} (h : At l i o) : l.toArray[i]? = some o := by
  induction h with
  | zero => simp
  | succ _ ih => simpa using ih

section
variable (P : Program) (G : Gst)
structure JM (l : List Oper) (Q : Exit → Act → World → Prop) (s : List (Nat × Bool)) (pd : List Pend) (n : Nat) (base : Nat → Value) (L : List (Nat × Value)) (D : List Deferred) (As : List Asn) : Prop where
  run : ∀ w, Sat G w As → wpMix P l.toArray Q s pd (frm n base L D) w
/-- What reads the world not at all. -/
structure Pz (n : Nat) (base : Nat → Value) (L : List (Nat × Value)) (op : Op) (v : Value) : Prop where
  run : ∀ G, Py P G n base L [] op v
end
/-- What stands, behind an operation that turned memory, of what was read. -/
inductive Kept (ops : Array Oper) (i : Nat) (G : Gst) (As : List Asn) : List Pend → List Pend → Prop
  | nil : Kept ops i G As [] []
  | drop {p : Pend} {l l' : List Pend} : Forced ops p.pos i → Kept ops i G As l l' → Kept ops i G As (p :: l) l'
  | keep {p : Pend} {l l' : List Pend} : (∀ w, Sat G w As → p.holds w) → Kept ops i G As l l' → Kept ops i G As (p :: l) (p :: l')
theorem Kept.spec {ops : Array Oper} {i : Nat} {G : Gst} {As : List Asn} {l l' : List Pend} (h : Kept ops i G As l l') : (∀ p ∈ l, p ∈ l' ∨ Forced ops p.pos i) ∧ (∀ w, Sat G w As → ∀ p ∈ l', p.holds w) := by
  induction h with
  | nil => simp
  | drop hf _ ih =>
    refine ⟨fun p hp => ?_, ih.2⟩
    rcases List.mem_cons.1 hp with rfl | h
    · exact .inr hf
    · exact ih.1 p h
  | keep hk _ ih =>
    refine ⟨fun p hp => ?_, fun w hw p hp => ?_⟩
    · rcases List.mem_cons.1 hp with rfl | h
      · exact .inl (by simp)
      · exact (ih.1 p h).imp (fun h => List.mem_cons_of_mem _ h) id
    · rcases List.mem_cons.1 hp with rfl | h
      · exact hk w hw
      · exact ih.2 w hw p h
section
variable {P : Program} {G : Gst} {l : List Oper} {Q : Exit → Act → World → Prop} {s : List (Nat × Bool)} {pd : List Pend} {n : Nat} {base : Nat → Value} {L : List (Nat × Value)} {D : List Deferred} {As r : List Asn}
  {ty : TypeId} {pos : String} {aft : Array Edge} {i : Nat}
theorem JC.regionM {id : Nat} (s : List (Nat × Bool)) (hm : P.follows .mixedOrders = true) (hB : (Region.noSelect l.toArray && Nat.beq s.length l.length && okM l.toArray s (Array.replicate l.length false)) = true) (h : JM P G l Q s [] n base L D As) : JC P G Q (.region id l.toArray true) n base L D As :=
  ⟨fun _ hw => wp_region_mix s hm hB (h.run _ (hw.drawn _))⟩
theorem JM.nil (h : JX G Q .normal n base L D As) : JM P G l Q [] pd n base L D As := ⟨fun w hw => h.run w hw⟩
theorem put_dst {dst : Option Nat} {v : Value} : (frm n base L D).put dst v = frm n base (match dst with | some d => (d, v) :: L | none => L) D := by
  cases dst with
  | none => rfl
  | some d => exact frm_put d v
/-- The bare law. -/
theorem JM.pure {o : Oper} {d : Nat} {v : Value} (c : World → Prop) (h : At l i o) (hd : o.dst = some d) (hy : ∀ w, c w → YieldsAt P l.toArray w o v (frm n base L D)) (hc : ∀ w, Sat G w As → c w) (k : JM P G l Q s (⟨i, c⟩ :: pd) n base ((d, v) :: L) D As) : JM P G l Q ((i, true) :: s) pd n base L D As :=
  ⟨fun w hw => ⟨o, v, c, h.get, hy, hc w hw, .inr (by rw [hd, frm_put d v]; exact k.run w hw)⟩⟩
theorem JM.still {o : Oper} {d : Nat} {v : Value} (h : At l i o) (hd : o.dst = some d) (hy : ∀ w, YieldsAt P l.toArray w o v (frm n base L D)) (k : JM P G l Q s pd n base ((d, v) :: L) D As) : JM P G l Q ((i, true) :: s) pd n base L D As :=
  ⟨fun w hw => ⟨o, v, fun _ => True, h.get, fun w _ => hy w, trivial, .inl ⟨fun _ => trivial, by rw [hd, frm_put d v]; exact k.run w hw⟩⟩⟩
theorem Pz.at {op : Op} {v : Value} (h : Pz P n base L op v) (w : World) (o : Oper) (ho : o.op = op) : (execOp (ev n base L) o).run P w = .ok (.value v) w :=
  (h.run ⟨w.os, w.tape, w.output⟩).run w ⟨rfl, rfl, rfl, trivial⟩ o ho
theorem wanted_none {ops : Array Oper} {d : Option Nat} {op : Op} {f : Nat → Option Bool} : Region.wanted ⟨d, op, ty, pos, aft, none⟩ f = true := rfl
theorem JM.py {d : Nat} {op : Op} {v : Value} (h : At l i ⟨some d, op, ty, pos, aft, none⟩) (hp : Pz P n base L op v) (k : JM P G l Q s pd n base ((d, v) :: L) D As) : JM P G l Q ((i, true) :: s) pd n base L D As :=
  JM.still h rfl (fun w => .inl ⟨rfl, .inl (by rw [frm_eval]; exact hp.at w _ rfl)⟩) k
theorem JM.pyG {d j t : Nat} {b : Bool} {op : Op} {v : Value} (h : At l i ⟨some d, op, ty, pos, aft, some (j, b)⟩) (hd : (l.toArray[j]?).bind (·.dst) = some t) (hv : ev n base L (.tmp t) = .bool b) (hp : Pz P n base L op v)
    (k : JM P G l Q s pd n base ((d, v) :: L) D As) : JM P G l Q ((i, true) :: s) pd n base L D As :=
  JM.still h rfl (fun w => .inl ⟨by simp only [Region.wanted, frm_yielded _ j hd hv]; cases b <;> rfl, .inl (by rw [frm_eval]; exact hp.at w _ rfl)⟩) k
theorem JM.skip {d j t : Nat} {b : Bool} {op : Op} (h : At l i ⟨some d, op, ty, pos, aft, some (j, b)⟩) (hd : (l.toArray[j]?).bind (·.dst) = some t) (hv : ev n base L (.tmp t) = .bool (!b))
    (k : JM P G l Q s pd n base ((d, undef) :: L) D As) : JM P G l Q ((i, true) :: s) pd n base L D As :=
  JM.still h rfl (fun w => .inr ⟨by simp only [Region.wanted, frm_yielded _ j hd hv]; cases b <;> rfl, rfl⟩) k
theorem run_ld {t : TypeId} {x : Operand} {b i' : Nat} {v : Value} {o : Oper} {w : World} (hs : Scal P t) (hx : ev n base L x = .pointer (some ⟨b, i', none⟩)) (ho : o.op = .load t x) (hc : w.cell? ⟨b, i', none⟩ = some v) : (execOp (ev n base L) o).run P w = .ok (.value v) w := by
  simp [execOp, ho, hx, Instr.loadAt, Instr.sureAddr, loadVar, hs w, hc]
theorem JM.ld {d : Nat} {t : TypeId} {x : Operand} {b i' : Nat} {T : TypeId} {fr : Nat × Nat} {cs : Array Value} {v : Value} (h : At l i ⟨some d, .load t x, ty, pos, aft, none⟩) (hs : Scal P t) (hx : ev n base L x = .pointer (some ⟨b, i', none⟩))
    (q : Pick (blk b (.cells cs T fr)) As r) (hv : cs[i']? = some v) (k : JM P G l Q s (⟨i, fun w => w.cell? ⟨b, i', none⟩ = some v⟩ :: pd) n base ((d, v) :: L) D As) : JM P G l Q ((i, true) :: s) pd n base L D As :=
  JM.pure _ h rfl (fun w hc => .inl ⟨rfl, .inl (by rw [frm_eval]; exact run_ld hs hx rfl hc)⟩) (fun w hw => hw.cell q hv) k
theorem JM.ldG {d j t' : Nat} {g : Bool} {t : TypeId} {x : Operand} {b i' : Nat} {T : TypeId} {fr : Nat × Nat} {cs : Array Value} {v : Value} (h : At l i ⟨some d, .load t x, ty, pos, aft, some (j, g)⟩) (hd : (l.toArray[j]?).bind (·.dst) = some t') (hg : ev n base L (.tmp t') = .bool g) (hs : Scal P t) (hx : ev n base L x = .pointer (some ⟨b, i', none⟩))
    (q : Pick (blk b (.cells cs T fr)) As r) (hv : cs[i']? = some v) (k : JM P G l Q s (⟨i, fun w => w.cell? ⟨b, i', none⟩ = some v⟩ :: pd) n base ((d, v) :: L) D As) : JM P G l Q ((i, true) :: s) pd n base L D As :=
  JM.pure _ h rfl (fun w hc => .inl ⟨by simp only [Region.wanted, frm_yielded _ j hd hg]; cases g <;> rfl, .inl (by rw [frm_eval]; exact run_ld hs hx rfl hc)⟩) (fun w hw => hw.cell q hv) k
theorem JM.ldA {d : Nat} {t : TypeId} {x : Operand} {b i' m : Nat} {T : TypeId} {fr : Nat × Nat} {cs vs : Array Value} (h : At l i ⟨some d, .load t x, ty, pos, aft, none⟩) (hs : Aggr P t m) (hx : ev n base L x = .pointer (some ⟨b, i', none⟩))
    (q : Pick (blk b (.cells cs T fr)) As r) (hk : i' + m ≤ cs.size) (hv : cs.extract i' (i' + m) = vs) (k : JM P G l Q s (⟨i, fun w => ∃ cs' T' fr', w.heap[b]? = some (.cells cs' T' fr') ∧ i' + m ≤ cs'.size ∧ cs'.extract i' (i' + m) = vs⟩ :: pd) n base ((d, .agg vs) :: L) D As) : JM P G l Q ((i, true) :: s) pd n base L D As :=
  JM.pure _ h rfl (fun w ⟨cs', T', fr', hb, hk', hv'⟩ => .inl ⟨rfl, .inl (by
    have hc := run_loadCells (P := P) hb i' m hk'
    rw [hv'] at hc
    rw [frm_eval]
    simp [execOp, hx, Instr.loadAt, Instr.sureAddr, loadVar, (hs w).1, (hs w).2, hc])⟩) (fun w hw => ⟨cs, T, fr, hw.block_of q, hk, hv⟩) k
/-- Behind an operation that turns memory. -/
def MixK (P : Program) (l : List Oper) (Q : Exit → Act → World → Prop) (s : List (Nat × Bool)) (pd : List Pend) (i : Nat) : Act → World → Prop := fun a w => ∃ pd', (∀ p ∈ pd, p ∈ pd' ∨ Forced l.toArray p.pos i) ∧ (∀ p ∈ pd', p.holds w) ∧ wpMix P l.toArray Q s pd' a w
theorem JM.eff {o : Oper} (h : At l i o) (k : JO P G l.toArray (Exit.then (MixK P l Q s pd i) NoQ) [o] n base L D As) : JM P G l Q ((i, false) :: s) pd n base L D As := by
  refine ⟨fun w hw => ?_⟩
  have h1 := k.run w hw
  simp only [wpMix]
  unfold wpOp
  simp only [h.get]
  unfold wpList at h1
  split
  · rename_i hw'
    simp only [hw', if_true] at h1
    rcases h1 with h1 | h1
    · left
      refine Oper.wp_mono (fun a w h2 => ?_) (upon_noQ (Q := NoQ) (fun _ _ _ h => h) (fun ⟨_, _, h⟩ => h.elim) h1)
      exact h2
    · obtain ⟨_, _, h⟩ := h1.2; exact h.elim
  · rename_i hw'
    simp only [hw'] at h1
    exact h1
theorem JX.mix {pd' : List Pend} (hk : Kept l.toArray i G As pd pd') (k : JM P G l Q s pd' n base L D As) : JX G (Exit.then (MixK P l Q s pd i) NoQ) .normal n base L D As :=
  ⟨fun w hw => ⟨pd', hk.spec.1, hk.spec.2 w hw, k.run w hw⟩⟩
theorem JM.sat {As' : List Asn} (hs : ∀ w, Sat G w As → Sat G w As') (h : JM P G l Q s pd n base L D As') : JM P G l Q s pd n base L D As := ⟨fun w hw => h.run w (hs w hw)⟩
theorem JM.open {α : Type} {f : α → List Asn} (q : Pick (Ex f) As r) (h : ∀ x, JM P G l Q s pd n base L D (f x ++ r)) : JM P G l Q s pd n base L D As :=
  ⟨fun w hw => let ⟨x, hx⟩ := (hw.pick q).opens; (h x).run w hx⟩
theorem JM.shut {α : Type} {f : α → List Asn} (x : α) (q : Picks (f x) As r) (h : JM P G l Q s pd n base L D (Ex f :: r)) : JM P G l Q s pd n base L D As :=
  ⟨fun w hw => h.run w ((hw.picks q).shuts x)⟩
theorem JM.as {A A' : Asn} (q : Pick A As r) (e : A = A') (k : JM P G l Q s pd n base L D (A' :: r)) : JM P G l Q s pd n base L D As := ⟨fun w hw => k.run w (e ▸ hw.pick q)⟩
end
end Go.Proofs.YtfpepghmbeoanaaGreatDoor
end
