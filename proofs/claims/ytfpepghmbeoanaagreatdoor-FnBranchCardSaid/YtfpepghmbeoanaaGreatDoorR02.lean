/-
Closed facts on the program's types.
Rows: slices that the call owns, append, make, copy.
Regions that draw their order, read and turn memory: one order for all.
Small tactics for the steps.
More laws: make, slices, built values, maps.
More closed facts on the program's types.
-/
import Derived.Test.YtfpepghmbeoanaaGreatDoorProg
import Derived.Test.YtfpepghmbeoanaaGreatDoorR01
import Derived.MapKept
import Derived.Laws.Tables
import Derived.Laws.MakeOwn
import Derived.Laws.Slices
set_option linter.unusedSimpArgs false
set_option linter.unusedVariables false
section
open Go Go.RowKit
namespace Go.Proofs.YtfpepghmbeoanaaGreatDoor
theorem mixed : Tryz.prog.follows .mixedOrders = true := by kernel_rfl
theorem agg147 : Aggr Tryz.prog 147 1 := fun _ => ⟨by kernel_rfl, by kernel_rfl⟩
theorem agg196 : Aggr Tryz.prog 196 3 := fun _ => ⟨by kernel_rfl, by kernel_rfl⟩
theorem agg198 : Aggr Tryz.prog 198 5 := fun _ => ⟨by kernel_rfl, by kernel_rfl⟩
theorem agg219 : Aggr Tryz.prog 219 3 := fun _ => ⟨by kernel_rfl, by kernel_rfl⟩
theorem agg24 : Aggr Tryz.prog 24 6 := fun _ => ⟨by kernel_rfl, by kernel_rfl⟩
theorem agg258 : Aggr Tryz.prog 258 2 := fun _ => ⟨by kernel_rfl, by kernel_rfl⟩
theorem agg51 : Aggr Tryz.prog 51 14 := fun _ => ⟨by kernel_rfl, by kernel_rfl⟩
theorem agg54 : Aggr Tryz.prog 54 4 := fun _ => ⟨by kernel_rfl, by kernel_rfl⟩
theorem cnv250_45 : Cnv Tryz.prog 250 45 .u32 := fun _ _ _ => by kernel_rfl
theorem cnv2_43 : Cnv Tryz.prog 2 43 .u64 := fun _ _ _ => by kernel_rfl
theorem cnv2_45 : Cnv Tryz.prog 2 45 .u32 := fun _ _ _ => by kernel_rfl
theorem cnv355_3 : Cnv Tryz.prog 355 3 .i64 := fun _ _ _ => by kernel_rfl
theorem cnv3_43 : Cnv Tryz.prog 3 43 .u64 := fun _ _ _ => by kernel_rfl
theorem cnv3_45 : Cnv Tryz.prog 3 45 .u32 := fun _ _ _ => by kernel_rfl
theorem cnv3_5 : Cnv Tryz.prog 3 5 .u8 := fun _ _ _ => by kernel_rfl
theorem cnv3_67 : Cnv Tryz.prog 3 67 .u64 := fun _ _ _ => by kernel_rfl
theorem cnv43_2 : Cnv Tryz.prog 43 2 .i64 := fun _ _ _ => by kernel_rfl
theorem cnv43_3 : Cnv Tryz.prog 43 3 .i64 := fun _ _ _ => by kernel_rfl
theorem cnv43_45 : Cnv Tryz.prog 43 45 .u32 := fun _ _ _ => by kernel_rfl
theorem cnv43_5 : Cnv Tryz.prog 43 5 .u8 := fun _ _ _ => by kernel_rfl
theorem cnv45_2 : Cnv Tryz.prog 45 2 .i64 := fun _ _ _ => by kernel_rfl
theorem cnv45_3 : Cnv Tryz.prog 45 3 .i64 := fun _ _ _ => by kernel_rfl
theorem cnv45_355 : Cnv Tryz.prog 45 355 .u8 := fun _ _ _ => by kernel_rfl
theorem cnv45_43 : Cnv Tryz.prog 45 43 .u64 := fun _ _ _ => by kernel_rfl
theorem cnv45_5 : Cnv Tryz.prog 45 5 .u8 := fun _ _ _ => by kernel_rfl
theorem cnv5_3 : Cnv Tryz.prog 5 3 .i64 := fun _ _ _ => by kernel_rfl
theorem cnv5_43 : Cnv Tryz.prog 5 43 .u64 := fun _ _ _ => by kernel_rfl
theorem cnv5_45 : Cnv Tryz.prog 5 45 .u32 := fun _ _ _ => by kernel_rfl
theorem cnv5_61 : Cnv Tryz.prog 5 61 .u16 := fun _ _ _ => by kernel_rfl
theorem cnv5_67 : Cnv Tryz.prog 5 67 .u64 := fun _ _ _ => by kernel_rfl
theorem cnv61_2 : Cnv Tryz.prog 61 2 .i64 := fun _ _ _ => by kernel_rfl
theorem cnv61_45 : Cnv Tryz.prog 61 45 .u32 := fun _ _ _ => by kernel_rfl
theorem cnv67_45 : Cnv Tryz.prog 67 45 .u32 := fun _ _ _ => by kernel_rfl
theorem elm113 : Elm Tryz.prog 113 (Value.nilIface) 16 := .of (by kernel_rfl) rfl
theorem elm22 : Elm Tryz.prog 22 (Value.slice none 0 0) 24 := .of (by kernel_rfl) rfl
theorem elm250 : Elm Tryz.prog 250 (Value.int IntKind.u16 0) 2 := .of (by kernel_rfl) rfl
theorem elm5 : Elm Tryz.prog 5 (Value.int IntKind.u8 0) 1 := .of (by kernel_rfl) rfl
theorem elm61 : Elm Tryz.prog 61 (Value.int IntKind.u16 0) 2 := .of (by kernel_rfl) rfl
theorem elm90 : Elm Tryz.prog 90 (Value.nilIface) 16 := .of (by kernel_rfl) rfl
theorem fld105_0 : Fld Tryz.prog 105 0 0 := fun _ _ => by kernel_rfl
theorem fld105_1 : Fld Tryz.prog 105 1 1 := fun _ _ => by kernel_rfl
theorem fld105_2 : Fld Tryz.prog 105 2 257 := fun _ _ => by kernel_rfl
theorem fld119_1 : Fld Tryz.prog 119 1 1 := fun _ _ => by kernel_rfl
theorem fld123_0 : Fld Tryz.prog 123 0 0 := fun _ _ => by kernel_rfl
theorem fld123_1 : Fld Tryz.prog 123 1 1 := fun _ _ => by kernel_rfl
theorem fld131_0 : Fld Tryz.prog 131 0 0 := fun _ _ => by kernel_rfl
theorem fld131_1 : Fld Tryz.prog 131 1 1 := fun _ _ => by kernel_rfl
theorem fld131_2 : Fld Tryz.prog 131 2 2 := fun _ _ => by kernel_rfl
theorem fld134_0 : Fld Tryz.prog 134 0 0 := fun _ _ => by kernel_rfl
theorem fld134_1 : Fld Tryz.prog 134 1 1 := fun _ _ => by kernel_rfl
theorem fld134_2 : Fld Tryz.prog 134 2 2 := fun _ _ => by kernel_rfl
theorem fld134_3 : Fld Tryz.prog 134 3 3 := fun _ _ => by kernel_rfl
theorem fld134_4 : Fld Tryz.prog 134 4 4 := fun _ _ => by kernel_rfl
theorem fld134_5 : Fld Tryz.prog 134 5 5 := fun _ _ => by kernel_rfl
theorem fld134_6 : Fld Tryz.prog 134 6 6 := fun _ _ => by kernel_rfl
theorem fld134_7 : Fld Tryz.prog 134 7 264 := fun _ _ => by kernel_rfl
theorem fld134_8 : Fld Tryz.prog 134 8 265 := fun _ _ => by kernel_rfl
theorem fld134_9 : Fld Tryz.prog 134 9 266 := fun _ _ => by kernel_rfl
theorem fld139_0 : Fld Tryz.prog 139 0 0 := fun _ _ => by kernel_rfl
theorem fld141_0 : Fld Tryz.prog 141 0 0 := fun _ _ => by kernel_rfl
theorem fld143_0 : Fld Tryz.prog 143 0 0 := fun _ _ => by kernel_rfl
theorem fld145_0 : Fld Tryz.prog 145 0 0 := fun _ _ => by kernel_rfl
theorem fld147_0 : Fld Tryz.prog 147 0 0 := fun _ _ => by kernel_rfl
theorem fld154_1 : Fld Tryz.prog 154 1 1 := fun _ _ => by kernel_rfl
theorem fld166_0 : Fld Tryz.prog 166 0 0 := fun _ _ => by kernel_rfl
theorem fld173_0 : Fld Tryz.prog 173 0 0 := fun _ _ => by kernel_rfl
theorem fld173_1 : Fld Tryz.prog 173 1 1 := fun _ _ => by kernel_rfl
theorem fld173_2 : Fld Tryz.prog 173 2 2 := fun _ _ => by kernel_rfl
theorem fld178_0 : Fld Tryz.prog 178 0 0 := fun _ _ => by kernel_rfl
theorem fld178_1 : Fld Tryz.prog 178 1 1 := fun _ _ => by kernel_rfl
theorem fld178_2 : Fld Tryz.prog 178 2 4 := fun _ _ => by kernel_rfl
theorem fld178_3 : Fld Tryz.prog 178 3 5 := fun _ _ => by kernel_rfl
theorem fld182_0 : Fld Tryz.prog 182 0 0 := fun _ _ => by kernel_rfl
theorem fld191_0 : Fld Tryz.prog 191 0 0 := fun _ _ => by kernel_rfl
theorem fld191_1 : Fld Tryz.prog 191 1 1 := fun _ _ => by kernel_rfl
theorem fld191_2 : Fld Tryz.prog 191 2 2 := fun _ _ => by kernel_rfl
theorem fld191_3 : Fld Tryz.prog 191 3 3 := fun _ _ => by kernel_rfl
theorem fld191_4 : Fld Tryz.prog 191 4 4 := fun _ _ => by kernel_rfl
theorem fld191_5 : Fld Tryz.prog 191 5 5 := fun _ _ => by kernel_rfl
theorem fld191_6 : Fld Tryz.prog 191 6 6 := fun _ _ => by kernel_rfl
theorem fld196_0 : Fld Tryz.prog 196 0 0 := fun _ _ => by kernel_rfl
theorem fld196_1 : Fld Tryz.prog 196 1 1 := fun _ _ => by kernel_rfl
theorem fld196_2 : Fld Tryz.prog 196 2 2 := fun _ _ => by kernel_rfl
theorem fld198_0 : Fld Tryz.prog 198 0 0 := fun _ _ => by kernel_rfl
theorem fld198_1 : Fld Tryz.prog 198 1 3 := fun _ _ => by kernel_rfl
theorem fld198_2 : Fld Tryz.prog 198 2 4 := fun _ _ => by kernel_rfl
theorem fld200_1 : Fld Tryz.prog 200 1 1 := fun _ _ => by kernel_rfl
theorem fld200_2 : Fld Tryz.prog 200 2 6 := fun _ _ => by kernel_rfl
theorem fld200_3 : Fld Tryz.prog 200 3 11 := fun _ _ => by kernel_rfl
theorem fld212_0 : Fld Tryz.prog 212 0 0 := fun _ _ => by kernel_rfl
theorem fld219_0 : Fld Tryz.prog 219 0 0 := fun _ _ => by kernel_rfl
theorem fld219_1 : Fld Tryz.prog 219 1 1 := fun _ _ => by kernel_rfl
theorem fld219_2 : Fld Tryz.prog 219 2 2 := fun _ _ => by kernel_rfl
theorem fld223_0 : Fld Tryz.prog 223 0 0 := fun _ _ => by kernel_rfl
theorem fld223_1 : Fld Tryz.prog 223 1 3 := fun _ _ => by kernel_rfl
theorem fld230_0 : Fld Tryz.prog 230 0 0 := fun _ _ => by kernel_rfl
theorem fld230_1 : Fld Tryz.prog 230 1 1 := fun _ _ => by kernel_rfl
theorem fld230_2 : Fld Tryz.prog 230 2 2 := fun _ _ => by kernel_rfl
theorem fld230_3 : Fld Tryz.prog 230 3 3 := fun _ _ => by kernel_rfl
theorem fld237_0 : Fld Tryz.prog 237 0 0 := fun _ _ => by kernel_rfl
theorem fld237_1 : Fld Tryz.prog 237 1 1 := fun _ _ => by kernel_rfl
theorem fld237_2 : Fld Tryz.prog 237 2 2 := fun _ _ => by kernel_rfl
theorem fld237_3 : Fld Tryz.prog 237 3 3 := fun _ _ => by kernel_rfl
theorem fld237_4 : Fld Tryz.prog 237 4 4 := fun _ _ => by kernel_rfl
theorem fld237_5 : Fld Tryz.prog 237 5 5 := fun _ _ => by kernel_rfl
theorem fld237_6 : Fld Tryz.prog 237 6 6 := fun _ _ => by kernel_rfl
theorem fld24_0 : Fld Tryz.prog 24 0 0 := fun _ _ => by kernel_rfl
theorem fld24_1 : Fld Tryz.prog 24 1 1 := fun _ _ => by kernel_rfl
theorem fld24_2 : Fld Tryz.prog 24 2 2 := fun _ _ => by kernel_rfl
theorem fld24_3 : Fld Tryz.prog 24 3 3 := fun _ _ => by kernel_rfl
theorem fld24_4 : Fld Tryz.prog 24 4 4 := fun _ _ => by kernel_rfl
theorem fld24_5 : Fld Tryz.prog 24 5 5 := fun _ _ => by kernel_rfl
theorem fld255_0 : Fld Tryz.prog 255 0 0 := fun _ _ => by kernel_rfl
theorem fld258_0 : Fld Tryz.prog 258 0 0 := fun _ _ => by kernel_rfl
theorem fld258_1 : Fld Tryz.prog 258 1 1 := fun _ _ => by kernel_rfl
theorem fld260_0 : Fld Tryz.prog 260 0 0 := fun _ _ => by kernel_rfl
theorem fld263_0 : Fld Tryz.prog 263 0 0 := fun _ _ => by kernel_rfl
theorem fld263_1 : Fld Tryz.prog 263 1 2 := fun _ _ => by kernel_rfl
theorem fld263_2 : Fld Tryz.prog 263 2 34 := fun _ _ => by kernel_rfl
theorem fld263_3 : Fld Tryz.prog 263 3 66 := fun _ _ => by kernel_rfl
theorem fld265_0 : Fld Tryz.prog 265 0 0 := fun _ _ => by kernel_rfl
theorem fld268_0 : Fld Tryz.prog 268 0 0 := fun _ _ => by kernel_rfl
theorem fld268_1 : Fld Tryz.prog 268 1 8 := fun _ _ => by kernel_rfl
theorem fld268_2 : Fld Tryz.prog 268 2 28 := fun _ _ => by kernel_rfl
theorem fld26_3 : Fld Tryz.prog 26 3 3 := fun _ _ => by kernel_rfl
theorem fld26_4 : Fld Tryz.prog 26 4 4 := fun _ _ => by kernel_rfl
theorem fld26_5 : Fld Tryz.prog 26 5 5 := fun _ _ => by kernel_rfl
theorem fld270_0 : Fld Tryz.prog 270 0 0 := fun _ _ => by kernel_rfl
theorem fld270_1 : Fld Tryz.prog 270 1 4 := fun _ _ => by kernel_rfl
theorem fld270_10 : Fld Tryz.prog 270 10 573 := fun _ _ => by kernel_rfl
theorem fld270_11 : Fld Tryz.prog 270 11 603 := fun _ _ => by kernel_rfl
theorem fld270_12 : Fld Tryz.prog 270 12 604 := fun _ _ => by kernel_rfl
theorem fld270_13 : Fld Tryz.prog 270 13 605 := fun _ _ => by kernel_rfl
theorem fld270_2 : Fld Tryz.prog 270 2 196 := fun _ _ => by kernel_rfl
theorem fld270_3 : Fld Tryz.prog 270 3 388 := fun _ _ => by kernel_rfl
theorem fld270_4 : Fld Tryz.prog 270 4 400 := fun _ _ => by kernel_rfl
theorem fld270_5 : Fld Tryz.prog 270 5 412 := fun _ _ => by kernel_rfl
theorem fld270_6 : Fld Tryz.prog 270 6 424 := fun _ _ => by kernel_rfl
theorem fld270_7 : Fld Tryz.prog 270 7 436 := fun _ _ => by kernel_rfl
theorem fld270_8 : Fld Tryz.prog 270 8 437 := fun _ _ => by kernel_rfl
theorem fld270_9 : Fld Tryz.prog 270 9 505 := fun _ _ => by kernel_rfl
theorem fld276_0 : Fld Tryz.prog 276 0 0 := fun _ _ => by kernel_rfl
theorem fld276_1 : Fld Tryz.prog 276 1 1 := fun _ _ => by kernel_rfl
theorem fld282_0 : Fld Tryz.prog 282 0 0 := fun _ _ => by kernel_rfl
theorem fld282_1 : Fld Tryz.prog 282 1 1 := fun _ _ => by kernel_rfl
theorem fld284_0 : Fld Tryz.prog 284 0 0 := fun _ _ => by kernel_rfl
theorem fld284_1 : Fld Tryz.prog 284 1 2 := fun _ _ => by kernel_rfl
theorem fld284_2 : Fld Tryz.prog 284 2 3 := fun _ _ => by kernel_rfl
theorem fld284_3 : Fld Tryz.prog 284 3 4 := fun _ _ => by kernel_rfl
theorem fld288_0 : Fld Tryz.prog 288 0 0 := fun _ _ => by kernel_rfl
theorem fld288_1 : Fld Tryz.prog 288 1 1 := fun _ _ => by kernel_rfl
theorem fld288_2 : Fld Tryz.prog 288 2 2 := fun _ _ => by kernel_rfl
theorem fld344_0 : Fld Tryz.prog 344 0 0 := fun _ _ => by kernel_rfl
theorem fld344_1 : Fld Tryz.prog 344 1 1 := fun _ _ => by kernel_rfl
theorem fld347_0 : Fld Tryz.prog 347 0 0 := fun _ _ => by kernel_rfl
theorem fld47_0 : Fld Tryz.prog 47 0 0 := fun _ _ => by kernel_rfl
theorem fld47_1 : Fld Tryz.prog 47 1 1 := fun _ _ => by kernel_rfl
theorem fld47_2 : Fld Tryz.prog 47 2 2 := fun _ _ => by kernel_rfl
theorem fld47_3 : Fld Tryz.prog 47 3 3 := fun _ _ => by kernel_rfl
theorem fld47_4 : Fld Tryz.prog 47 4 4 := fun _ _ => by kernel_rfl
theorem fld75_0 : Fld Tryz.prog 75 0 0 := fun _ _ => by kernel_rfl
theorem fld75_1 : Fld Tryz.prog 75 1 1 := fun _ _ => by kernel_rfl
theorem fld75_2 : Fld Tryz.prog 75 2 17 := fun _ _ => by kernel_rfl
theorem fld75_3 : Fld Tryz.prog 75 3 33 := fun _ _ => by kernel_rfl
theorem fld96_0 : Fld Tryz.prog 96 0 0 := fun _ _ => by kernel_rfl
theorem fld96_1 : Fld Tryz.prog 96 1 1 := fun _ _ => by kernel_rfl
theorem fld96_2 : Fld Tryz.prog 96 2 2 := fun _ _ => by kernel_rfl
theorem mki102 : Mki Tryz.prog 102 := fun _ _ => by kernel_rfl
theorem mki106 : Mki Tryz.prog 106 := fun _ _ => by kernel_rfl
theorem mki109 : Mki Tryz.prog 109 := fun _ _ => by kernel_rfl
theorem mki115 : Mki Tryz.prog 115 := fun _ _ => by kernel_rfl
theorem mki121 : Mki Tryz.prog 121 := fun _ _ => by kernel_rfl
theorem mki124 : Mki Tryz.prog 124 := fun _ _ => by kernel_rfl
theorem mki137 : Mki Tryz.prog 137 := fun _ _ => by kernel_rfl
theorem mki140 : Mki Tryz.prog 140 := fun _ _ => by kernel_rfl
theorem mki142 : Mki Tryz.prog 142 := fun _ _ => by kernel_rfl
theorem mki144 : Mki Tryz.prog 144 := fun _ _ => by kernel_rfl
theorem mki149 : Mki Tryz.prog 149 := fun _ _ => by kernel_rfl
theorem mki152 : Mki Tryz.prog 152 := fun _ _ => by kernel_rfl
theorem mki171 : Mki Tryz.prog 171 := fun _ _ => by kernel_rfl
theorem mki176 : Mki Tryz.prog 176 := fun _ _ => by kernel_rfl
theorem mki180 : Mki Tryz.prog 180 := fun _ _ => by kernel_rfl
theorem mki187 : Mki Tryz.prog 187 := fun _ _ => by kernel_rfl
theorem mki188 : Mki Tryz.prog 188 := fun _ _ => by kernel_rfl
theorem mki189 : Mki Tryz.prog 189 := fun _ _ => by kernel_rfl
theorem mki202 : Mki Tryz.prog 202 := fun _ _ => by kernel_rfl
theorem mki210 : Mki Tryz.prog 210 := fun _ _ => by kernel_rfl
theorem mki215 : Mki Tryz.prog 215 := fun _ _ => by kernel_rfl
theorem mki274 : Mki Tryz.prog 274 := fun _ _ => by kernel_rfl
theorem mki285 : Mki Tryz.prog 285 := fun _ _ => by kernel_rfl
theorem mki344 : Mki Tryz.prog 344 := fun _ _ => by kernel_rfl
theorem mki347 : Mki Tryz.prog 347 := fun _ _ => by kernel_rfl
theorem mki88 : Mki Tryz.prog 88 := fun _ _ => by kernel_rfl
theorem mki9 : Mki Tryz.prog 9 := fun _ _ => by kernel_rfl
theorem scal106 : Scal Tryz.prog 106 := fun _ => by kernel_rfl
theorem scal113 : Scal Tryz.prog 113 := fun _ => by kernel_rfl
theorem scal126 : Scal Tryz.prog 126 := fun _ => by kernel_rfl
theorem scal169 : Scal Tryz.prog 169 := fun _ => by kernel_rfl
theorem scal175 : Scal Tryz.prog 175 := fun _ => by kernel_rfl
theorem scal186 : Scal Tryz.prog 186 := fun _ => by kernel_rfl
theorem scal187 : Scal Tryz.prog 187 := fun _ => by kernel_rfl
theorem scal188 : Scal Tryz.prog 188 := fun _ => by kernel_rfl
theorem scal189 : Scal Tryz.prog 189 := fun _ => by kernel_rfl
theorem scal2 : Scal Tryz.prog 2 := fun _ => by kernel_rfl
theorem scal204 : Scal Tryz.prog 204 := fun _ => by kernel_rfl
theorem scal209 : Scal Tryz.prog 209 := fun _ => by kernel_rfl
theorem scal22 : Scal Tryz.prog 22 := fun _ => by kernel_rfl
theorem scal228 : Scal Tryz.prog 228 := fun _ => by kernel_rfl
theorem scal235 : Scal Tryz.prog 235 := fun _ => by kernel_rfl
theorem scal250 : Scal Tryz.prog 250 := fun _ => by kernel_rfl
theorem scal253 : Scal Tryz.prog 253 := fun _ => by kernel_rfl
theorem scal3 : Scal Tryz.prog 3 := fun _ => by kernel_rfl
theorem scal4 : Scal Tryz.prog 4 := fun _ => by kernel_rfl
theorem scal43 : Scal Tryz.prog 43 := fun _ => by kernel_rfl
theorem scal45 : Scal Tryz.prog 45 := fun _ => by kernel_rfl
theorem scal48 : Scal Tryz.prog 48 := fun _ => by kernel_rfl
theorem scal5 : Scal Tryz.prog 5 := fun _ => by kernel_rfl
theorem scal61 : Scal Tryz.prog 61 := fun _ => by kernel_rfl
theorem scal67 : Scal Tryz.prog 67 := fun _ => by kernel_rfl
theorem scal70 : Scal Tryz.prog 70 := fun _ => by kernel_rfl
theorem scal90 : Scal Tryz.prog 90 := fun _ => by kernel_rfl
theorem siz113 : Siz Tryz.prog 113 1 := fun _ => by kernel_rfl
theorem siz129 : Siz Tryz.prog 129 1 := fun _ => by kernel_rfl
theorem siz147 : Siz Tryz.prog 147 1 := fun _ => by kernel_rfl
theorem siz186 : Siz Tryz.prog 186 1 := fun _ => by kernel_rfl
theorem siz187 : Siz Tryz.prog 187 1 := fun _ => by kernel_rfl
theorem siz188 : Siz Tryz.prog 188 1 := fun _ => by kernel_rfl
theorem siz189 : Siz Tryz.prog 189 1 := fun _ => by kernel_rfl
theorem siz196 : Siz Tryz.prog 196 3 := fun _ => by kernel_rfl
theorem siz198 : Siz Tryz.prog 198 5 := fun _ => by kernel_rfl
theorem siz2 : Siz Tryz.prog 2 1 := fun _ => by kernel_rfl
theorem siz204 : Siz Tryz.prog 204 1 := fun _ => by kernel_rfl
theorem siz209 : Siz Tryz.prog 209 1 := fun _ => by kernel_rfl
theorem siz22 : Siz Tryz.prog 22 1 := fun _ => by kernel_rfl
theorem siz230 : Siz Tryz.prog 230 6 := fun _ => by kernel_rfl
theorem siz235 : Siz Tryz.prog 235 1 := fun _ => by kernel_rfl
theorem siz250 : Siz Tryz.prog 250 1 := fun _ => by kernel_rfl
theorem siz253 : Siz Tryz.prog 253 1 := fun _ => by kernel_rfl
theorem siz258 : Siz Tryz.prog 258 2 := fun _ => by kernel_rfl
theorem siz26 : Siz Tryz.prog 26 6 := fun _ => by kernel_rfl
theorem siz260 : Siz Tryz.prog 260 2 := fun _ => by kernel_rfl
theorem siz265 : Siz Tryz.prog 265 2 := fun _ => by kernel_rfl
theorem siz270 : Siz Tryz.prog 270 608 := fun _ => by kernel_rfl
theorem siz282 : Siz Tryz.prog 282 2 := fun _ => by kernel_rfl
theorem siz3 : Siz Tryz.prog 3 1 := fun _ => by kernel_rfl
theorem siz344 : Siz Tryz.prog 344 2 := fun _ => by kernel_rfl
theorem siz347 : Siz Tryz.prog 347 1 := fun _ => by kernel_rfl
theorem siz4 : Siz Tryz.prog 4 1 := fun _ => by kernel_rfl
theorem siz43 : Siz Tryz.prog 43 1 := fun _ => by kernel_rfl
theorem siz45 : Siz Tryz.prog 45 1 := fun _ => by kernel_rfl
theorem siz48 : Siz Tryz.prog 48 1 := fun _ => by kernel_rfl
theorem siz5 : Siz Tryz.prog 5 1 := fun _ => by kernel_rfl
theorem siz50 : Siz Tryz.prog 50 4 := fun _ => by kernel_rfl
theorem siz51 : Siz Tryz.prog 51 14 := fun _ => by kernel_rfl
theorem siz54 : Siz Tryz.prog 54 4 := fun _ => by kernel_rfl
theorem siz61 : Siz Tryz.prog 61 1 := fun _ => by kernel_rfl
theorem siz67 : Siz Tryz.prog 67 1 := fun _ => by kernel_rfl
theorem siz70 : Siz Tryz.prog 70 1 := fun _ => by kernel_rfl
theorem siz78 : Siz Tryz.prog 78 8 := fun _ => by kernel_rfl
theorem siz79 : Siz Tryz.prog 79 8 := fun _ => by kernel_rfl
theorem siz90 : Siz Tryz.prog 90 1 := fun _ => by kernel_rfl
theorem zer123 : Zer Tryz.prog 123 (.agg #[Value.int IntKind.u32 0, Value.int IntKind.u32 0]) := fun _ => by kernel_rfl
theorem zer131 : Zer Tryz.prog 131 (.agg #[Value.slice none 0 0, Value.int IntKind.i64 0, Value.int IntKind.i8 0]) := fun _ => by kernel_rfl
theorem zer139 : Zer Tryz.prog 139 (.agg #[Value.int IntKind.u32 0]) := fun _ => by kernel_rfl
theorem zer141 : Zer Tryz.prog 141 (.agg #[Value.int IntKind.u32 0]) := fun _ => by kernel_rfl
theorem zer143 : Zer Tryz.prog 143 (.agg #[Value.int IntKind.u32 0]) := fun _ => by kernel_rfl
theorem zer145 : Zer Tryz.prog 145 (.agg #[Value.int IntKind.u32 0]) := fun _ => by kernel_rfl
theorem zer147 : Zer Tryz.prog 147 (.agg #[Value.int IntKind.i64 0]) := fun _ => by kernel_rfl
theorem zer196 : Zer Tryz.prog 196 (.agg #[Value.int IntKind.i64 0, Value.int IntKind.i64 0, Value.int IntKind.i64 0]) := fun _ => by kernel_rfl
theorem zer230 : Zer Tryz.prog 230 (.agg #[Value.int IntKind.u8 0, Value.int IntKind.u32 0, Value.int IntKind.u16 0, Value.int IntKind.i64 0, Value.int IntKind.i64 0, Value.int IntKind.i64 0]) := fun _ => by kernel_rfl
theorem zer258 : Zer Tryz.prog 258 (.agg #[Value.slice none 0 0, Value.int IntKind.u8 0]) := fun _ => by kernel_rfl
theorem zer26 : Zer Tryz.prog 26 (.agg #[Value.int IntKind.i64 0, Value.int IntKind.i64 0, Value.int IntKind.i64 0, Value.int IntKind.i64 0, Value.int IntKind.i64 0, Value.int IntKind.i64 0]) := fun _ => by kernel_rfl
theorem zer260 : Zer Tryz.prog 260 (.agg #[Value.slice none 0 0, Value.int IntKind.u8 0]) := fun _ => by kernel_rfl
theorem zer265 : Zer Tryz.prog 265 (.agg #[Value.slice none 0 0, Value.int IntKind.u8 0]) := fun _ => by kernel_rfl
theorem zer297 : Zer Tryz.prog 297 (.agg (Value.int IntKind.u8 0 :: Value.int IntKind.u8 0 :: Value.int IntKind.u8 0 :: Value.int IntKind.u8 0 :: Value.int IntKind.u8 0 :: Value.int IntKind.u8 0 :: Value.int IntKind.u8 0 :: Value.int IntKind.u8 0 :: Value.int IntKind.u8 0 :: Value.int IntKind.u8 0 :: Value.int IntKind.u8 0 :: Value.int IntKind.u8 0 :: Value.int IntKind.u8 0 :: Value.int IntKind.u8 0 :: Value.int IntKind.u8 0 :: Value.int IntKind.u8 0 :: Value.int IntKind.u8 0 :: Value.int IntKind.u8 0 :: Value.int IntKind.u8 0 :: Value.int IntKind.u8 0 :: Value.int IntKind.u8 0 :: Value.int IntKind.u8 0 :: Value.int IntKind.u8 0 :: Value.int IntKind.u8 0 :: []).toArray) := fun _ => by kernel_rfl
theorem zer344 : Zer Tryz.prog 344 (.agg #[Value.int IntKind.i64 0, Value.int IntKind.i64 0]) := fun _ => by kernel_rfl
theorem zer347 : Zer Tryz.prog 347 (.agg #[Value.int IntKind.u8 0]) := fun _ => by kernel_rfl
theorem zer364 : Zer Tryz.prog 364 (.agg #[Value.int IntKind.u8 0, Value.int IntKind.u8 0, Value.int IntKind.u8 0, Value.int IntKind.u8 0]) := fun _ => by kernel_rfl
theorem zer384 : Zer Tryz.prog 384 (.agg #[Value.int IntKind.u8 0]) := fun _ => by kernel_rfl
theorem zer50 : Zer Tryz.prog 50 (.agg #[Value.slice none 0 0, Value.slice none 0 0, Value.slice none 0 0, Value.slice none 0 0]) := fun _ => by kernel_rfl
theorem zer51 : Zer Tryz.prog 51 (.agg (Value.slice none 0 0 :: Value.slice none 0 0 :: Value.slice none 0 0 :: Value.slice none 0 0 :: Value.slice none 0 0 :: Value.slice none 0 0 :: Value.slice none 0 0 :: Value.slice none 0 0 :: Value.slice none 0 0 :: Value.slice none 0 0 :: Value.slice none 0 0 :: Value.slice none 0 0 :: Value.slice none 0 0 :: Value.slice none 0 0 :: []).toArray) := fun _ => by kernel_rfl
theorem zer54 : Zer Tryz.prog 54 (.agg #[Value.int IntKind.i64 0, Value.int IntKind.i64 0, Value.int IntKind.i64 0, Value.int IntKind.i64 0]) := fun _ => by kernel_rfl
theorem zer78 : Zer Tryz.prog 78 (.agg #[Value.bool false, Value.bool false, Value.bool false, Value.bool false, Value.bool false, Value.bool false, Value.bool false, Value.bool false]) := fun _ => by kernel_rfl
theorem zer79 : Zer Tryz.prog 79 (.agg #[Value.int IntKind.u64 0, Value.int IntKind.u64 0, Value.int IntKind.u64 0, Value.int IntKind.u64 0, Value.int IntKind.u64 0, Value.int IntKind.u64 0, Value.int IntKind.u64 0, Value.int IntKind.u64 0]) := fun _ => by kernel_rfl
end Go.Proofs.YtfpepghmbeoanaaGreatDoor
end

section
open Go Go.RowKit
namespace Go.Proofs.YtfpepghmbeoanaaGreatDoor

/-- A slice value that owns a row of one-cell elements of type e from the head of its block on: it reads as xs. -/
def Row (e : TypeId) (v : Value) (xs : List Value) : Asn := fun h =>
  (v = .slice none 0 0 ∧ xs = []) ∨ ∃ b cap cur, v = .slice (some ⟨b, 0, none⟩) xs.length cap ∧ xs.length ≤ cap ∧ cap < 9223372036854775808 ∧ cur.size = cap ∧ cur.toList.take xs.length = xs ∧ cel b e cur h

section
variable {P : Program} {G : Gst} {ops : Array Oper} {Q : Exit → Act → World → Prop} {n : Nat} {base : Nat → Value} {L : List (Nat × Value)} {D : List Deferred} {As r : List Asn}
  {ty : TypeId} {pos : String} {aft : Array Edge} {rest : List Oper}

theorem JO.as {A A' : Asn} {l : List Oper} (q : Pick A As r) (e : A = A') (k : JO P G ops Q l n base L D (A' :: r)) : JO P G ops Q l n base L D As := ⟨fun w hw => k.run w (e ▸ hw.pick q)⟩
theorem JX.as {A A' : Asn} {x : Exit} (q : Pick A As r) (e : A = A') (k : JX G Q x n base L D (A' :: r)) : JX G Q x n base L D As := ⟨fun w hw => k.run w (e ▸ hw.pick q)⟩
theorem JC.as {A A' : Asn} {c : Code} (q : Pick A As r) (e : A = A') (k : JC P G Q c n base L D (A' :: r)) : JC P G Q c n base L D As := ⟨fun w hw => k.run w (e ▸ hw.pick q)⟩
theorem cel_eq {b : Nat} {T : TypeId} {cs cs' : Array Value} (h : cs = cs') : cel b T cs = cel b T cs' := h ▸ rfl

/-- What is appended, or copied: m values, read off memory. -/
structure Src (P : Program) (G : Gst) (As : List Asn) (x : Value) (m : Nat) (news : List Value) : Prop where
  len : ∀ w, (Builtin.lenOf x).run P w = .ok m w
  cells : ∀ w, Sat G w As → (Builtin.firstCells 1 m x).run P w = .ok news.toArray w
  one : ∀ v ∈ news, v.oneCell' = true
  num : news.length = m
theorem Src.nil {x : Value} (hx : x = .slice none 0 0) : Src P G As x 0 [] := by
  subst hx
  exact ⟨fun w => rfl, fun w _ => rfl, by simp, rfl⟩
theorem Src.cel {x : Value} {b o m cap : Nat} {T : TypeId} {fr : Nat × Nat} {cs : Array Value} {news : List Value} (hx : x = .slice (some ⟨b, o, none⟩) m cap) (q : Pick (blk b (.cells cs T fr)) As r) (hm : o + m ≤ cs.size) (hn : (cs.extract o (o + m)).toList = news) (h1 : ∀ v ∈ news, v.oneCell' = true) :
    Src P G As x m news := by
  subst hx; subst hn
  refine ⟨fun w => rfl, fun w hw => ?_, h1, by simp; omega⟩
  have := run_loadCells (P := P) (hw.block_of q) o m hm
  simp only [Builtin.firstCells, Nat.mul_one, this]
theorem Src.lit {x : Value} {b cap m : Nat} {T : TypeId} {fr : Nat × Nat} {vs : List Value} (hx : x = .slice (some ⟨b, 0, none⟩) m cap) (q : Pick (blk b (.cells vs.toArray T fr)) As r) (hm : vs.length = m) (h1 : ∀ v ∈ vs, v.oneCell' = true) : Src P G As x m vs := by
  subst hm
  exact Src.cel hx q (by simp) (by simp) h1
theorem Src.row {x : Value} {e : TypeId} {xs : List Value} (q : Pick (Row e x xs) As r) (h1 : ∀ v ∈ xs, v.oneCell' = true) (hx : ∃ a m c, x = .slice a m c ∧ m = xs.length) : Src P G As x xs.length xs := by
  obtain ⟨a, m, c, rfl, rfl⟩ := hx
  refine ⟨fun w => rfl, fun w hw => ?_, h1, rfl⟩
  obtain ⟨h1, h2, hd, he, hA, _⟩ := (hw.pick q).mem
  rcases hA with ⟨hv, hxs⟩ | ⟨b, cap, cur, hv, hc, _, hs, hpre, hcel⟩
  · injection hv with e1 e2 e3
    subst e1; subst hxs; rfl
  · injection hv with e1 e2 e3
    subst e1
    have hb : w.heap[b]? = some (.cells cur e (0, 0)) := by
      have hk := congrFun he b
      have e4 : h1 b = some (.cells cur e (0, 0)) := by rw [hcel]; simp
      simp only [Hp.un, e4] at hk
      exact hk
    have := run_loadCells (P := P) hb 0 xs.length (by omega)
    simp only [Builtin.firstCells, Nat.mul_one, this, Nat.zero_add]
    congr 1
    apply Array.ext'
    simp [List.extract_eq_take_drop, hpre]

theorem nextcap_le {need old : Nat} (h : old < need) : Builtin.nextslicecap need old ≤ 2 * need + 10000 := by
  unfold Builtin.nextslicecap
  split
  · omega
  · split
    · omega
    · simp only [Builtin.growBy]
      repeat' split
      all_goals omega

/-- 'append(s, x...)': whatever s had room for. -/
theorem run_append {e t tx : TypeId} {z : Value} {bytes : Nat} (ht : P.underlying t = some (.slice e)) (htx : P.underlying tx = some (.slice e)) (he : Elm P e z bytes) {s x : Value} {xs news : List Value} {m : Nat} {w : World} (hw : Sat G w (Row e s xs :: r))
    (hs : Src P G (Row e s xs :: r) x m news) (hb : (xs.length + m) * bytes ≤ 1099511627776) (hby : 0 < bytes) (hby2 : bytes ≤ 32) (ty : TypeId) :
    ∃ v' w', (Builtin.append_ #[t, tx] ty #[s, x]).run P w = .ok v' w' ∧ Sat G w' (Row e v' (xs ++ news) :: r) := by
  have hmem := hw
  have hneed : (xs.length + m) ≤ 1099511627776 := Nat.le_trans (Nat.le_mul_of_pos_right _ hby) hb
  -- where the row lies
  have hrow : ∃ a cap, s = .slice a xs.length cap ∧ cap < 9223372036854775808 := by
    obtain ⟨h1, h2, _, _, hA, _⟩ := hw.mem
    rcases hA with ⟨hv, hxs⟩ | ⟨b, cap, cur, hv, hc, hlt, hs, hpre, hcel⟩
    · subst hxs; exact ⟨none, 0, hv, by omega⟩
    · exact ⟨_, cap, hv, hlt⟩
  obtain ⟨a, cap, hsv, hcap⟩ := hrow
  obtain ⟨i, hi, hib⟩ := he.byt w
  by_cases hfit : xs.length + m ≤ cap
  · -- there is room
    obtain ⟨h1, h2, hd, hh, hA, hl⟩ := hw.mem
    rcases hA with ⟨hv, hxs⟩ | ⟨b, cap', cur, hv, hc, hlt, hsz, hpre, hcel⟩
    · -- nil: nothing is appended
      rw [hsv] at hv
      injection hv with e1 e2 e3
      subst e1
      have hm0 : m = 0 := by omega
      have hn0 : news = [] := List.eq_nil_of_length_eq_zero (by rw [hs.num, hm0])
      refine ⟨.slice none 0 0, w, ?_, ?_⟩
      · subst hsv
        have h4 := hs.cells w hmem
        simp only [Builtin.append_, List.getElem?_toArray, List.getElem?_cons_zero, List.getElem?_cons_succ, Sem.run_bind, run_underlying ht, Result.andThen_ok, he.siz w, run_underlying htx, Bool.false_eq_true, if_false, hs.len w, hfit, if_true, Bool.not_false, h4, Sem.run_pure]
        simp [e2, e3, hm0]
      · subst hxs; subst hn0
        rw [hsv] at hmem
        have : Value.slice none ([] : List Value).length cap = .slice none 0 0 := by simp [e3]
        rw [this] at hmem; exact hmem
    · rw [hsv] at hv
      injection hv with e1 e2 e3
      subst e1
      have hsat : Sat G w (cel b e cur :: r) := ⟨hw.os, hw.tape, hw.output, h1, h2, hd, hh, hcel, hl⟩
      obtain ⟨w', hst, hw'⟩ := run_storeCells (P := P) news xs.length 0 hsat (by rw [hs.num]; omega) hs.one
      refine ⟨.slice (some ⟨b, 0, none⟩) (xs.length + m) cap, w', ?_, ?_⟩
      · subst hsv
        have h4 := hs.cells w hmem
        simp only [Builtin.append_, List.getElem?_toArray, List.getElem?_cons_zero, List.getElem?_cons_succ, Sem.run_bind, run_underlying ht, Result.andThen_ok, he.siz w, run_underlying htx, Bool.false_eq_true, if_false, hs.len w, hfit, if_true, Bool.not_false, h4, Sem.run_pure, Nat.mul_one, add_off, Nat.zero_add, hst]
      · obtain ⟨k1, k2, kd, kh, kc, kl⟩ := hw'.mem
        refine ⟨hw'.os, hw'.tape, hw'.output, k1, k2, kd, kh, .inr ⟨b, cap, _, by simp [hs.num], by simp [hs.num]; omega, hcap, ?_, ?_, kc⟩, kl⟩
        · rw [putAll_size]; omega
        · apply List.ext_getElem?
          intro k
          rw [List.getElem?_take]
          have hg := putAll_get news cur (xs.length + 0) k (by rw [hs.num]; omega)
          rw [Array.getElem?_toList, hg]
          simp only [Nat.add_zero, List.length_append]
          by_cases hk1 : k < xs.length
          · rw [if_pos (by omega), if_neg (by omega), List.getElem?_append_left hk1]
            have : xs[k]? = (cur.toList.take xs.length)[k]? := by rw [hpre]
            rw [this, List.getElem?_take, if_pos hk1]; simp
          · by_cases hk2 : k < xs.length + news.length
            · rw [if_pos hk2, if_pos (by omega), List.getElem?_append_right (by omega)]
            · rw [if_neg hk2]
              symm
              simp; omega
  · -- a new row
    have hq : ¬ ((Question.appendCap (xs.length + m) cap e).forced = true) := by simp [Question.forced]
    obtain ⟨nc, hnc⟩ : ∃ nc, nc = (Question.appendCap (xs.length + m) cap e).cut (w.tape w.drawn (.appendCap (xs.length + m) cap e)) := ⟨_, rfl⟩
    have hnc1 : xs.length + m ≤ nc ∧ nc < 9223372036854775808 := by
      rw [hnc]; simp only [Question.cut]
      have : w.tape w.drawn (.appendCap (xs.length + m) cap e) % (2 ^ 63 - (xs.length + m)) < 2 ^ 63 - (xs.length + m) := Nat.mod_lt _ (by omega)
      omega
    have hsat2 : Sat G { w with drawn := w.drawn + 1 } (Row e s xs :: r) := hw.drawn _
    have hold : (Builtin.firstCells 1 xs.length s).run P { w with drawn := w.drawn + 1 } = .ok xs.toArray { w with drawn := w.drawn + 1 } := by
      obtain ⟨h1, h2, hd, hh, hA, hl⟩ := hsat2.mem
      rcases hA with ⟨hv, hxs⟩ | ⟨b, cap', cur, hv, hc, hlt, hsz, hpre, hcel⟩
      · subst hv; subst hxs; rfl
      · subst hv
        have hb' : ({ w with drawn := w.drawn + 1 } : World).heap[b]? = some (.cells cur e (0, 0)) := by
          have hk := congrFun hh b
          have e4 : h1 b = some (.cells cur e (0, 0)) := by rw [hcel]; simp
          simp only [Hp.un, e4] at hk
          exact hk
        have := run_loadCells (P := P) hb' 0 xs.length (by omega)
        simp only [Builtin.firstCells, Nat.mul_one, this, Nat.zero_add]
        congr 1
        apply Array.ext'
        simp [List.extract_eq_take_drop, hpre]
    have hnew := hs.cells _ hsat2
    have hlim : ¬ (2 ^ 48 < Builtin.nextslicecap (xs.length + m) cap * i.bytes) := by
      have h1 := nextcap_le (need := xs.length + m) (old := cap) (by omega)
      have h2 : Builtin.nextslicecap (xs.length + m) cap * i.bytes ≤ (2 * (xs.length + m) + 10000) * bytes := by rw [hib]; exact Nat.mul_le_mul_right _ h1
      have h3 : (2 * (xs.length + m) + 10000) * bytes = 2 * ((xs.length + m) * bytes) + 10000 * bytes := by rw [Nat.add_mul, Nat.mul_assoc]
      have h4 : 10000 * bytes ≤ 320000 := by omega
      omega
    have hb0 : ¬ i.bytes = 0 := by omega
    refine ⟨.slice (some ⟨w.heap.size, 0, none⟩) (xs.length + m) nc, ({ w with drawn := w.drawn + 1 } : World).alloc (.cells (xs.toArray ++ news.toArray ++ Builtin.zeroCells z.cells (nc - (xs.length + m))) e), ?_, ?_⟩
    · subst hsv
      have e1 := he.siz w
      simp only [Builtin.append_, List.getElem?_toArray, List.getElem?_cons_zero, List.getElem?_cons_succ, Sem.run_bind, run_underlying ht, Result.andThen_ok, e1, run_underlying htx, Sem.run_pure, Bool.false_eq_true, if_false, hs.len w, hfit, Bool.not_false, hi, hb0, hlim, gt_iff_lt, false_or, and_false, run_choose, hq]
      have hz0 : (zeroValue e).run P { w with drawn := w.drawn + 1 } = .ok z _ := he.zer _
      simp only [← hnc, run_askRoom, Result.andThen_ok, hold, hnew, if_true, hz0, Sem.run_pure, newRow, Sem.run_bind, run_newObj, (show (typeInfo e).run P { w with drawn := w.drawn + 1 } = .ok i _ from by
        obtain ⟨j, hj, _⟩ := he.byt { w with drawn := w.drawn + 1 }
        have : j = i := by
          simp only [typeInfo, Sem.run_bind, run_program, Result.andThen_ok] at hi hj
          cases hx : P.info? e with
          | none => simp [hx] at hi
          | some y => simp [hx] at hi hj; rw [← hi, ← hj]
        rw [hj, this])]
      rfl
    · have := (hw.drawn (w.drawn + 1)).alloc (.cells (xs.toArray ++ news.toArray ++ Builtin.zeroCells z.cells (nc - (xs.length + m))) e)
      obtain ⟨k1, k2, kd, kh, kc, kl⟩ := this.mem
      have kl' := stars_drop kl
      refine ⟨this.os, this.tape, this.output, k1, k2, kd, kh, .inr ⟨w.heap.size, nc, _, by simp [hs.num], by simp [hs.num]; omega, hnc1.2, ?_, ?_, kc⟩, kl'⟩
      · have hz1 : z.cells.size = 1 := by rw [cells_one he.one]; rfl
        simp [Builtin.zeroCells, hz1, hs.num]; omega
      · have e9 : (xs.toArray ++ news.toArray ++ Builtin.zeroCells z.cells (nc - (xs.length + m))).toList = (xs ++ news) ++ (Builtin.zeroCells z.cells (nc - (xs.length + m))).toList := by simp
        rw [e9, List.take_left]

/-- A row's value is a slice of so many. -/
theorem Row.slice {w : World} {e : TypeId} {v : Value} {xs : List Value} (hw : Sat G w As) (q : Pick (Row e v xs) As r) : ∃ a c, v = .slice a xs.length c ∧ c < 9223372036854775808 := by
  obtain ⟨h1, h2, _, _, hA, _⟩ := (hw.pick q).mem
  rcases hA with ⟨hv, hxs⟩ | ⟨b, cap, cur, hv, hc, hlt, _⟩
  · subst hxs; exact ⟨none, 0, hv, by omega⟩
  · exact ⟨_, cap, hv, hlt⟩
/-- 'append(s, x...)'. -/
theorem JO.app {t e : TypeId} {d : Nat} {x y : Operand} {s u z : Value} {xs news : List Value} {m bytes : Nat} (ht : P.underlying t = some (.slice e)) (he : Elm P e z bytes) (hx : ev n base L x = s) (hy : ev n base L y = u) (q : Pick (Row e s xs) As r)
    (hs : Src P G (Row e s xs :: r) u m news) (hb : (xs.length + m) * bytes ≤ 1099511627776) (hby : 0 < bytes ∧ bytes ≤ 32)
    (k : ∀ v', v'.oneCell' = true → JO P G ops Q rest n base ((d, v') :: L) D (Row e v' (xs ++ news) :: r)) :
    JO P G ops Q (⟨some d, .call { callee := .builtin .append, args := #[x, y], argTypes := #[t, t] }, ty, pos, aft, none⟩ :: rest) n base L D As := by
  refine ⟨fun w hw => ?_⟩
  refine wpList_plain rfl fun K hK => ?_
  show Oper.upon P _ _ _ _ _
  obtain ⟨v', w', hr, hw'⟩ := run_append ht ht he (hw.pick q) hs hb hby.1 hby.2 ty
  have e : (execOp (frm n base L D).eval ⟨some d, .call { callee := .builtin .append, args := #[x, y], argTypes := #[t, t] }, ty, pos, aft, none⟩).run P w = .ok (.value v') w' := by
    rw [frm_eval]
    simp [execOp, resolve, Go.invoke, Go.builtin, hx, hy, hr]
  rw [e]
  show K _ _
  rw [show (frm n base L D).put _ _ = _ from frm_put d _]
  obtain ⟨a, c, hsl, _⟩ := Row.slice hw' Pick.here
  exact hK _ _ ((k v' (by rw [hsl]; rfl)).run w' hw')
theorem JO.rowV {e : TypeId} {v : Value} {xs : List Value} {l : List Oper} (q : Pick (Row e v xs) As r) (k : ∀ a c, v = .slice a xs.length c → c < 9223372036854775808 → JO P G ops Q l n base L D As) : JO P G ops Q l n base L D As :=
  ⟨fun w hw => let ⟨a, c, h, hc⟩ := Row.slice hw q; (k a c h hc).run w hw⟩
theorem JC.rowV {e : TypeId} {v : Value} {xs : List Value} {c : Code} (q : Pick (Row e v xs) As r) (k : ∀ a c', v = .slice a xs.length c' → c' < 9223372036854775808 → JC P G Q c n base L D As) : JC P G Q c n base L D As :=
  ⟨fun w hw => let ⟨a, c', h, hc⟩ := Row.slice hw q; (k a c' h hc).run w hw⟩
theorem JX.rowV {e : TypeId} {v : Value} {xs : List Value} {x : Exit} (q : Pick (Row e v xs) As r) (k : ∀ a c', v = .slice a xs.length c' → c' < 9223372036854775808 → JX G Q x n base L D As) : JX G Q x n base L D As :=
  ⟨fun w hw => let ⟨a, c', h, hc⟩ := Row.slice hw q; (k a c' h hc).run w hw⟩
end
end Go.Proofs.YtfpepghmbeoanaaGreatDoor
end

section
open Go Go.RowKit
namespace Go.Proofs.YtfpepghmbeoanaaGreatDoor

abbrev NoQ : Exit → Act → World → Prop := fun _ _ _ => False
/-- What a read rests on. -/
structure Pend where
  pos : Nat
  holds : World → Prop
section
variable {P : Program} {ops : Array Oper} {K : Act → World → Prop} {Q : Exit → Act → World → Prop}

theorem upon_noQ {o : Oper} {a : Act} {w : World} {Q' : Exit → Act → World → Prop} (hp : ∀ c a w, Q' (.panic c) a w → Q (.panic c) a w) (ho : LetsOut Q' → LetsOut Q) (h : o.wp P a w K Q') : o.wp P a w K Q := by
  unfold Oper.wp at *
  generalize (execOp a.eval o).run P w = r at *
  cases r with
  | ok n w' =>
    cases n <;> simp only [Oper.upon] at h ⊢
    case enter f args =>
      refine Calls.mono h fun e w'' he => ?_
      cases e with
      | returned u => exact he
      | panicked c => exact hp _ _ _ he
      | outgrown => exact ho he
    all_goals exact h
  | halt x w' =>
    cases x <;> simp only [Oper.upon] at h ⊢
    case panic u => exact hp _ _ _ h
theorem letsOut_noQ : ¬ LetsOut NoQ := fun ⟨_, _, h⟩ => h

/-- The rest of a region in every order; J holds of the world whenever those are listed. -/
def wpAnyJ (P : Program) (ops : Array Oper) (Q : Exit → Act → World → Prop) (J : Array Bool → World → Prop) : Nat → Array Bool → Act → World → Prop
  | 0, listed, a, w => J listed w ∧ Region.ready .any ops listed = [] ∧ Q .normal a w
  | f + 1, listed, a, w => J listed w ∧ (Region.ready .any ops listed = [] → Q .normal a w) ∧ ∀ i ∈ Region.ready .any ops listed, wpOp P ops NoQ i (wpAnyJ P ops Q J f (listed.setIfInBounds i true)) a w
theorem wpAnyJ_J {J : Array Bool → World → Prop} {f : Nat} {listed : Array Bool} {a : Act} {w : World} (h : wpAnyJ P ops Q J f listed a w) : J listed w := by
  cases f <;> exact h.1
theorem wpOp_noQ {i : Nat} {a : Act} {w : World} (h : wpOp P ops NoQ i K a w) : wpOp P ops Q i K a w := by
  unfold wpOp at *
  split
  · simp only [*] at h; exact h
  · rename_i o ho
    simp only [ho] at h
    split
    · rename_i hw
      simp only [hw, if_true] at h
      rcases h with h | h
      · exact .inl (upon_noQ (fun _ _ _ h => h.elim) (fun h => (letsOut_noQ h).elim) h)
      · exact (letsOut_noQ h.2).elim
    · rename_i hw; simp only [hw] at h; exact h
theorem wpAny_of_J {J : Array Bool → World → Prop} : ∀ (f : Nat) (listed : Array Bool) (a : Act) (w : World), wpAnyJ P ops Q J f listed a w → wpAny P .any ops Q f listed a w
  | 0, _, _, _, h => ⟨h.2.1, h.2.2⟩
  | f + 1, _, _, _, h => ⟨h.2.1, fun i hi => wpOp_mono (fun a w => wpAny_of_J f _ a w) (wpOp_noQ (h.2.2 i hi))⟩
theorem wpAnyJ_mono {J J' : Array Bool → World → Prop} {e : Nat} (hJ : ∀ l w, l.getD e false = true → J l w → J' l w) : ∀ (f : Nat) (listed : Array Bool) (a : Act) (w : World), listed.getD e false = true → wpAnyJ P ops Q J f listed a w → wpAnyJ P ops Q J' f listed a w
  | 0, _, _, _, hl, h => ⟨hJ _ _ hl h.1, h.2⟩
  | f + 1, _, _, _, hl, h => ⟨hJ _ _ hl h.1, h.2.1, fun i hi => wpOp_mono (fun a w => wpAnyJ_mono hJ f _ a w (getD_set_true hl)) (h.2.2 i hi)⟩

/-- What is listed holds all that it waits for. -/
structure Clo (ops : Array Oper) (listed : Array Bool) : Prop where
  size : listed.size = ops.size
  clo : ∀ j oj, ops[j]? = some oj → listed.getD j false = true → ∀ e ∈ oj.after, Region.binds .any e = true → listed.getD e.on false = true
theorem Clo.set {i : Nat} {listed : Array Bool} (inv : Clo ops listed) (hi : i ∈ Region.ready .any ops listed) : Clo ops (listed.setIfInBounds i true) := by
  obtain ⟨_, oi, hoi, hall⟩ := mem_ready.1 hi
  refine ⟨by simp [inv.size], fun j oj hj hl e he hb => ?_⟩
  by_cases hij : i = j
  · subst hij
    have : oj = oi := Option.some.inj (hj.symm.trans hoi)
    subst this
    exact getD_set_true (hall e he hb)
  · rw [getD_set_ne false hij] at hl
    exact getD_set_true (inv.clo j oj hj hl e he hb)
/-- p is forced ahead of e. -/
def Forced (ops : Array Oper) (p e : Nat) : Prop := ∀ listed, Clo ops listed → listed.getD e false = true → listed.getD p false = true
theorem Forced.step {p e : Nat} (h : Region.waitsFor .any ops e p = true) : Forced ops p e := fun listed hc he => by
  obtain ⟨oj, hj, x, hx, hb, rfl⟩ := Region.waitsFor_spec h
  exact hc.clo e oj hj he x hx hb
theorem Forced.trans {p q e : Nat} (h : Forced ops p q) (k : Forced ops q e) : Forced ops p e := fun l hc he => h l hc (k l hc he)

def PendJ (ops : Array Oper) (bl : Array Bool) (pd : List Pend) (l : Array Bool) (w : World) : Prop :=
  ∀ p ∈ pd, (∀ e, l.getD e false = true → bl.getD e false = false → ¬ Forced ops p.pos e) → p.holds w

theorem putOp {j : Nat} {oi oj : Oper} {v : Value} {c : World → Prop} (hj : ops[j]? = some oj) (hap : oi.apart ops oj = true)
    (hsi : ∀ cs b, oi.op ≠ .select cs b) (hsj : ∀ cs b, oj.op ≠ .select cs b) {a : Act} {w : World}
    (hy : ∀ w, c w → YieldsAt P ops w oi v a) (h : wpOp P ops NoQ j K (a.put oi.dst v) w) :
    wpOp P ops NoQ j (fun a' w' => (∀ w, c w → YieldsAt P ops w oi v a') ∧ K (a'.put oi.dst v) w') a w := by
  obtain ⟨h1, h2, h3⟩ := Oper.apart_spec hap
  have keep : ∀ (a : Act), (∀ w, c w → YieldsAt P ops w oi v a) → ∀ u, ∀ w, c w → YieldsAt P ops w oi v (a.put oj.dst u) := fun a hy u w hc =>
    (hy w hc).of_same (execOp_put oi hsi a oj.dst u h3) (wanted_put oi a oj.dst u h3)
  have keepD : ∀ d, ∀ w, c w → YieldsAt P ops w oi v { a with defers := d :: a.defers } := fun d w hc => (hy w hc).of_same rfl rfl
  unfold wpOp at *
  simp only [hj] at *
  rw [wanted_put oj a oi.dst v h1] at h
  split
  · rename_i hw
    simp only [hw, if_true] at h
    rcases h with h | ⟨_, hlets⟩
    case inr => exact (letsOut_noQ hlets).elim
    refine .inl ?_
    unfold Oper.wp at *
    rw [execOp_put oj hsj a oi.dst v h1] at h
    generalize (execOp a.eval oj).run P w = r at *
    cases r with
    | ok n w' =>
      cases n <;> simp only [Oper.upon] at h ⊢
      case value u => exact ⟨keep a hy u, by rw [← Act.put_comm a v u h2]; exact h⟩
      case skip => exact ⟨keep a hy _, by rw [← Act.put_comm a v undef h2]; exact h⟩
      case defer d =>
        refine ⟨keep _ (keepD d) _, ?_⟩
        rw [← Act.put_comm _ v undef h2, ← Act.put_defers]
        exact h
      case enter f args =>
        refine Calls.mono h fun e w'' he => ?_
        cases e with
        | returned u => exact ⟨keep a hy u, by rw [← Act.put_comm a v u h2]; exact he⟩
        | panicked c => exact he
        | outgrown => exact he
      case row row args => exact Rows.mono h fun u w'' he => ⟨keep a hy u, by rw [← Act.put_comm a v u h2]; exact he⟩
    | halt x w' =>
      cases x <;> simp only [Oper.upon] at h ⊢
      case panic u => exact h
  · rename_i hw
    simp only [hw] at h
    exact ⟨keep a hy _, by rw [← Act.put_comm a v undef h2]; exact h⟩

theorem yields_op {i : Nat} {o : Oper} {v : Value} {a : Act} {w : World} (hi : ops[i]? = some o) (hy : YieldsAt P ops w o v a) (h : K (a.put o.dst v) w) : wpOp P ops NoQ i K a w :=
  wpOp_of_stOp (K := fun a' => K a' w) (fun _ h => h) (hy.stOp hi h)

theorem set_eq_true {l : Array Bool} {i : Nat} (h : i < l.size) : (l.setIfInBounds i true).getD i false = true := by simp [h]
/-- What only reads may go first. -/
theorem mix_first {i : Nat} {oi : Oper} {v : Value} {c : World → Prop} {bl : Array Bool} {pd : List Pend} (hi : ops[i]? = some oi) (hsel : Region.noSelect ops = true) (hbi : bl.getD i false = false) (hbz : bl.size = ops.size) :
    ∀ (f : Nat) (listed : Array Bool) (a : Act) (w : World), Clo ops listed →
      (∀ j oj, ops[j]? = some oj → j ≠ i → listed.getD j true = false → (∀ e ∈ oj.after, Region.binds .any e = true → e.on ≠ i) → oi.apart ops oj = true) →
      i ∈ Region.ready .any ops listed → (∀ w, c w → YieldsAt P ops w oi v a) →
      wpAnyJ P ops Q (PendJ ops (bl.setIfInBounds i true) (⟨i, c⟩ :: pd)) f (listed.setIfInBounds i true) (a.put oi.dst v) w → wpAnyJ P ops Q (PendJ ops bl pd) (f + 1) listed a w := by
  have hisz : i < ops.size := (Array.getElem?_eq_some_iff.1 hi).1
  have hnot : ∀ e, (bl.setIfInBounds i true).getD e false = false → e ≠ i := fun e hb he => by
    subst he; rw [set_eq_true (by omega)] at hb; cases hb
  have hJ2 : ∀ l w, PendJ ops (bl.setIfInBounds i true) (⟨i, c⟩ :: pd) l w → PendJ ops bl pd l w := fun l w h p hp hc =>
    h p (List.mem_cons_of_mem _ hp) fun e he hb => hc e he (by rw [getD_set_ne false (Ne.symm (hnot e hb))] at hb; exact hb)
  have hpre : ∀ (f : Nat) (listed : Array Bool) (a : Act) (w : World), Clo ops listed → i ∈ Region.ready .any ops listed →
      wpAnyJ P ops Q (PendJ ops (bl.setIfInBounds i true) (⟨i, c⟩ :: pd)) f (listed.setIfInBounds i true) (a.put oi.dst v) w → c w ∧ PendJ ops bl pd listed w := by
    intro f listed a w hcl hr H
    have H0 := wpAnyJ_J H
    have hun := (mem_ready.1 hr).1
    constructor
    · refine H0 ⟨i, c⟩ (by simp) fun e he hb hf => ?_
      rw [getD_set_ne false (Ne.symm (hnot e hb))] at he
      have := hf listed hcl he
      rw [getD_both hun] at this; cases this
    · intro p hp hc
      refine H0 p (List.mem_cons_of_mem _ hp) fun e he hb => ?_
      have hne := Ne.symm (hnot e hb)
      rw [getD_set_ne false hne] at he hb
      exact hc e he hb
  have hnext : ∀ (listed : Array Bool) (j : Nat), i ∈ Region.ready .any ops listed → j ∈ Region.ready .any ops listed → ∃ oj, ops[j]? = some oj ∧ ∀ e ∈ oj.after, Region.binds .any e = true → e.on ≠ i := by
    intro listed j hr hj
    obtain ⟨hjun, oj, hoj, hall⟩ := mem_ready.1 hj
    refine ⟨oj, hoj, fun e he hb heq => ?_⟩
    have h1 := hall e he hb
    rw [heq, getD_both (mem_ready.1 hr).1] at h1
    cases h1
  have hall1 : ∀ (J : Array Bool → World → Prop) (f : Nat) (l : Array Bool) (a : Act) (w : World), i < l.size → l.getD i false = true → wpAnyJ P ops Q (PendJ ops (bl.setIfInBounds i true) (⟨i, c⟩ :: pd)) f l a w → wpAnyJ P ops Q (PendJ ops bl pd) f l a w :=
    fun _ f l a w hl hli h => wpAnyJ_mono (e := i) (fun l w _ h => hJ2 l w h) f l a w hli h
  intro f
  induction f with
  | zero =>
    intro listed a w hcl _ hr hy H
    obtain ⟨hc, hJ⟩ := hpre 0 listed a w hcl hr H
    have hisz' : i < listed.size := by rw [hcl.size]; exact hisz
    refine ⟨hJ, fun h => (by rw [h] at hr; cases hr), fun j hj => ?_⟩
    by_cases hji : j = i
    · subst hji; exact yields_op hi (hy w hc) (hall1 (fun _ _ => True) 0 _ _ _ (by simpa using hisz') (set_eq_true hisz') H)
    · have := ready_mono hj hji
      rw [H.2.1] at this
      cases this
  | succ f ih =>
    intro listed a w hcl hfree hr hy H
    obtain ⟨hc, hJ⟩ := hpre (f + 1) listed a w hcl hr H
    have hisz' : i < listed.size := by rw [hcl.size]; exact hisz
    refine ⟨hJ, fun h => (by rw [h] at hr; cases hr), fun j hj => ?_⟩
    by_cases hji : j = i
    · subst hji; exact yields_op hi (hy w hc) (hall1 (fun _ _ => True) (f + 1) _ _ _ (by simpa using hisz') (set_eq_true hisz') H)
    · have h1 := H.2.2 j (ready_mono hj hji)
      have hjun := (mem_ready.1 hj).1
      obtain ⟨oj, hoj, hno⟩ := hnext listed j hr hj
      have h2 := putOp hoj (hfree j oj hoj hji hjun hno) (fun cs b => Region.noSelect_spec hsel i oi cs b hi) (fun cs b => Region.noSelect_spec hsel j oj cs b hoj) hy h1
      have hfree' : ∀ k ok, ops[k]? = some ok → k ≠ i → (listed.setIfInBounds j true).getD k true = false →
          (∀ e ∈ ok.after, Region.binds .any e = true → e.on ≠ i) → oi.apart ops ok = true := fun k ok hk hki hun hno => by
        refine hfree k ok hk hki ?_ hno
        by_cases hjk : j = k
        · subst hjk; exact hjun
        · rw [getD_set_ne true hjk] at hun; exact hun
      refine wpOp_mono (fun a' w' h3 => ih (listed.setIfInBounds j true) a' w' (hcl.set hj) hfree' (ready_mono hr (Ne.symm hji)) h3.1 ?_) h2
      rw [Array.setIfInBounds_comm _ _ hji]
      exact h3.2

/-- One order: what only reads as early as may be, what turns memory when nothing else is left to do. -/
def okM (ops : Array Oper) : List (Nat × Bool) → Array Bool → Bool
  | [], listed => (Region.ready .any ops listed).isEmpty
  | (i, true) :: s, listed => (Region.ready .any ops listed).contains i && Region.free .any ops listed i && okM ops s (listed.setIfInBounds i true)
  | (i, false) :: s, listed => decide (Region.ready .any ops listed = [i]) && okM ops s (listed.setIfInBounds i true)
def wpMix (P : Program) (ops : Array Oper) (Q : Exit → Act → World → Prop) : List (Nat × Bool) → List Pend → Act → World → Prop
  | [], _, a, w => Q .normal a w
  | (i, true) :: s, pd, a, w => ∃ o v c, ops[i]? = some o ∧ (∀ w', c w' → YieldsAt P ops w' o v a) ∧ c w ∧ (((∀ w, c w) ∧ wpMix P ops Q s pd (a.put o.dst v) w) ∨ wpMix P ops Q s (⟨i, c⟩ :: pd) (a.put o.dst v) w)
  | (i, false) :: s, pd, a, w => wpOp P ops NoQ i (fun a' w' => ∃ pd', (∀ p ∈ pd, p ∈ pd' ∨ Forced ops p.pos i) ∧ (∀ p ∈ pd', p.holds w') ∧ wpMix P ops Q s pd' a' w') a w
theorem mix_any (hsel : Region.noSelect ops = true) : ∀ (s : List (Nat × Bool)) (pd : List Pend) (listed : Array Bool) (a : Act) (w : World), Clo ops listed → okM ops s listed = true → (∀ p ∈ pd, p.holds w) →
    wpMix P ops Q s pd a w → wpAnyJ P ops Q (PendJ ops listed pd) s.length listed a w
  | [], pd, listed, a, w, _, hok, hp, h => ⟨fun p hpd _ => hp p hpd, by simpa [okM] using hok, h⟩
  | (i, true) :: s, pd, listed, a, w, hcl, hok, hp, h => by
    obtain ⟨o, v, c, hi, hy, hc, hm⟩ := h
    simp only [okM, Bool.and_eq_true] at hok
    obtain ⟨⟨hr, hf⟩, hok'⟩ := hok
    have hr' : i ∈ Region.ready .any ops listed := by simpa using hr
    refine mix_first hi hsel (getD_both (mem_ready.1 hr').1) hcl.size _ _ _ _ hcl (Region.free_spec hi hf) hr' hy ?_
    rcases hm with ⟨hc0, hm⟩ | hm
    · have hisz : i < listed.size := by rw [hcl.size]; exact (Array.getElem?_eq_some_iff.1 hi).1
      have := mix_any hsel s pd _ _ _ (hcl.set hr') hok' hp hm
      refine wpAnyJ_mono (e := i) (fun l w' _ hJ p hp' hcc => ?_) _ _ _ _ (set_eq_true hisz) this
      rcases List.mem_cons.1 hp' with rfl | h
      · exact hc0 w'
      · exact hJ p h hcc
    · exact mix_any hsel s (⟨i, c⟩ :: pd) _ _ _ (hcl.set hr') hok' (fun p hp' => by
        rcases List.mem_cons.1 hp' with rfl | h
        · exact hc
        · exact hp p h) hm
  | (i, false) :: s, pd, listed, a, w, hcl, hok, hp, h => by
    simp only [okM, Bool.and_eq_true, decide_eq_true_eq] at hok
    obtain ⟨hr, hok'⟩ := hok
    have hr' : i ∈ Region.ready .any ops listed := by rw [hr]; simp
    have hiz : i < listed.size := by
      obtain ⟨_, o, ho, _⟩ := mem_ready.1 hr'
      rw [hcl.size]; exact (Array.getElem?_eq_some_iff.1 ho).1
    have hun := getD_both (mem_ready.1 hr').1
    refine ⟨fun p hpd _ => hp p hpd, fun h0 => (by rw [h0] at hr; cases hr), fun j hj => ?_⟩
    rw [hr] at hj
    have hji : j = i := by simpa using hj
    subst hji
    refine wpOp_mono (fun a' w' hk => ?_) h
    obtain ⟨pd', hsub, hh, hm⟩ := hk
    have := mix_any hsel s pd' _ _ _ (hcl.set hr') hok' hh hm
    refine wpAnyJ_mono (e := j) (fun l w'' hl hJ => ?_) _ _ _ _ (set_eq_true hiz) this
    intro p hpd hc
    have hnf := hc j hl hun
    rcases hsub p hpd with h1 | h1
    · refine hJ p h1 fun e he hb => hc e he ?_
      by_cases hje : j = e
      · subst hje; exact hun
      · rw [getD_set_ne false hje] at hb; exact hb
    · exact absurd h1 hnf
theorem wp_region_mix {id : Nat} {a : Act} {w : World} {l : List Oper} (s : List (Nat × Bool)) (hm : P.follows .mixedOrders = true) (hB : (Region.noSelect l.toArray && Nat.beq s.length l.length && okM l.toArray s (Array.replicate l.length false)) = true)
    (h : wpMix P l.toArray Q s [] a { w with drawn := w.drawn + 1 }) : (Code.region id l.toArray true).wp P Q a w := by
  simp only [Bool.and_eq_true] at hB
  obtain ⟨⟨hsel, hlen⟩, hok⟩ := hB
  have hlen' : s.length = l.length := Nat.eq_of_beq_eq_true hlen
  refine wp_region_any hm ?_
  have := mix_any hsel s [] (Array.replicate l.length false) a _ ⟨by simp, fun j oj _ hl => (by rw [getD_replicate_false] at hl; cases hl)⟩ hok (by simp) h
  have := wpAny_of_J _ _ _ _ this
  rw [hlen'] at this
  simpa using this
end

/-! ### The judgement -/
/-- What stands at place i. -/
inductive At : List Oper → Nat → Oper → Prop
  | zero {o : Oper} {l : List Oper} : At (o :: l) 0 o
  | succ {o o' : Oper} {l : List Oper} {i : Nat} : At l i o → At (o' :: l) (i + 1) o
theorem At.of {o : Oper} : ∀ {k : Nat} {l : List Oper}, l[k]? = some o → At l k o
  | 0, [], h => by cases h
  | 0, a :: l, h => by
    obtain rfl : a = o := by simpa using h
    exact .zero
  | k + 1, [], h => by cases h
  | k + 1, a :: l, h => .succ (At.of (by simpa using h))
theorem ao {l : List Oper} {k : Nat} {o : Oper} (h : l[k]? = some o := by exact rfl) : At l k o := .of h
theorem At.get {l : List Oper} {i : Nat} {o : Oper} (h : At l i o) : l.toArray[i]? = some o := by
  induction h with
  | zero => simp
  | succ _ ih => simpa using ih

section
variable (P : Program) (G : Gst)
structure JM (l : List Oper) (Q : Exit → Act → World → Prop) (s : List (Nat × Bool)) (pd : List Pend) (n : Nat) (base : Nat → Value) (L : List (Nat × Value)) (D : List Deferred) (As : List Asn) : Prop where
  run : ∀ w, Sat G w As → wpMix P l.toArray Q s pd (frm n base L D) w
/-- What reads the world not at all. -/
structure Pz (n : Nat) (base : Nat → Value) (L : List (Nat × Value)) (op : Op) (v : Value) : Prop where
  run : ∀ G, Py P G n base L [] op v
end
/-- What stands, behind an operation that turned memory, of what was read. -/
inductive Kept (ops : Array Oper) (i : Nat) (G : Gst) (As : List Asn) : List Pend → List Pend → Prop
  | nil : Kept ops i G As [] []
  | drop {p : Pend} {l l' : List Pend} : Forced ops p.pos i → Kept ops i G As l l' → Kept ops i G As (p :: l) l'
  | keep {p : Pend} {l l' : List Pend} : (∀ w, Sat G w As → p.holds w) → Kept ops i G As l l' → Kept ops i G As (p :: l) (p :: l')
theorem Kept.spec {ops : Array Oper} {i : Nat} {G : Gst} {As : List Asn} {l l' : List Pend} (h : Kept ops i G As l l') : (∀ p ∈ l, p ∈ l' ∨ Forced ops p.pos i) ∧ (∀ w, Sat G w As → ∀ p ∈ l', p.holds w) := by
  induction h with
  | nil => simp
  | drop hf _ ih =>
    refine ⟨fun p hp => ?_, ih.2⟩
    rcases List.mem_cons.1 hp with rfl | h
    · exact .inr hf
    · exact ih.1 p h
  | keep hk _ ih =>
    refine ⟨fun p hp => ?_, fun w hw p hp => ?_⟩
    · rcases List.mem_cons.1 hp with rfl | h
      · exact .inl (by simp)
      · exact (ih.1 p h).imp (fun h => List.mem_cons_of_mem _ h) id
    · rcases List.mem_cons.1 hp with rfl | h
      · exact hk w hw
      · exact ih.2 w hw p h
section
variable {P : Program} {G : Gst} {l : List Oper} {Q : Exit → Act → World → Prop} {s : List (Nat × Bool)} {pd : List Pend} {n : Nat} {base : Nat → Value} {L : List (Nat × Value)} {D : List Deferred} {As r : List Asn}
  {ty : TypeId} {pos : String} {aft : Array Edge} {i : Nat}
theorem JC.regionM {id : Nat} (s : List (Nat × Bool)) (hm : P.follows .mixedOrders = true) (hB : (Region.noSelect l.toArray && Nat.beq s.length l.length && okM l.toArray s (Array.replicate l.length false)) = true) (h : JM P G l Q s [] n base L D As) : JC P G Q (.region id l.toArray true) n base L D As :=
  ⟨fun _ hw => wp_region_mix s hm hB (h.run _ (hw.drawn _))⟩
theorem JM.nil (h : JX G Q .normal n base L D As) : JM P G l Q [] pd n base L D As := ⟨fun w hw => h.run w hw⟩
theorem put_dst {dst : Option Nat} {v : Value} : (frm n base L D).put dst v = frm n base (match dst with | some d => (d, v) :: L | none => L) D := by
  cases dst with
  | none => rfl
  | some d => exact frm_put d v
/-- The bare law. -/
theorem JM.pure {o : Oper} {d : Nat} {v : Value} (c : World → Prop) (h : At l i o) (hd : o.dst = some d) (hy : ∀ w, c w → YieldsAt P l.toArray w o v (frm n base L D)) (hc : ∀ w, Sat G w As → c w) (k : JM P G l Q s (⟨i, c⟩ :: pd) n base ((d, v) :: L) D As) : JM P G l Q ((i, true) :: s) pd n base L D As :=
  ⟨fun w hw => ⟨o, v, c, h.get, hy, hc w hw, .inr (by rw [hd, frm_put d v]; exact k.run w hw)⟩⟩
theorem JM.still {o : Oper} {d : Nat} {v : Value} (h : At l i o) (hd : o.dst = some d) (hy : ∀ w, YieldsAt P l.toArray w o v (frm n base L D)) (k : JM P G l Q s pd n base ((d, v) :: L) D As) : JM P G l Q ((i, true) :: s) pd n base L D As :=
  ⟨fun w hw => ⟨o, v, fun _ => True, h.get, fun w _ => hy w, trivial, .inl ⟨fun _ => trivial, by rw [hd, frm_put d v]; exact k.run w hw⟩⟩⟩
theorem Pz.at {op : Op} {v : Value} (h : Pz P n base L op v) (w : World) (o : Oper) (ho : o.op = op) : (execOp (ev n base L) o).run P w = .ok (.value v) w :=
  (h.run ⟨w.os, w.tape, w.output⟩).run w ⟨rfl, rfl, rfl, trivial⟩ o ho
theorem wanted_none {ops : Array Oper} {d : Option Nat} {op : Op} {f : Nat → Option Bool} : Region.wanted ⟨d, op, ty, pos, aft, none⟩ f = true := rfl
theorem JM.py {d : Nat} {op : Op} {v : Value} (h : At l i ⟨some d, op, ty, pos, aft, none⟩) (hp : Pz P n base L op v) (k : JM P G l Q s pd n base ((d, v) :: L) D As) : JM P G l Q ((i, true) :: s) pd n base L D As :=
  JM.still h rfl (fun w => .inl ⟨rfl, .inl (by rw [frm_eval]; exact hp.at w _ rfl)⟩) k
theorem JM.pyG {d j t : Nat} {b : Bool} {op : Op} {v : Value} (h : At l i ⟨some d, op, ty, pos, aft, some (j, b)⟩) (hd : (l.toArray[j]?).bind (·.dst) = some t) (hv : ev n base L (.tmp t) = .bool b) (hp : Pz P n base L op v)
    (k : JM P G l Q s pd n base ((d, v) :: L) D As) : JM P G l Q ((i, true) :: s) pd n base L D As :=
  JM.still h rfl (fun w => .inl ⟨by simp only [Region.wanted, frm_yielded _ j hd hv]; cases b <;> rfl, .inl (by rw [frm_eval]; exact hp.at w _ rfl)⟩) k
theorem JM.skip {d j t : Nat} {b : Bool} {op : Op} (h : At l i ⟨some d, op, ty, pos, aft, some (j, b)⟩) (hd : (l.toArray[j]?).bind (·.dst) = some t) (hv : ev n base L (.tmp t) = .bool (!b))
    (k : JM P G l Q s pd n base ((d, undef) :: L) D As) : JM P G l Q ((i, true) :: s) pd n base L D As :=
  JM.still h rfl (fun w => .inr ⟨by simp only [Region.wanted, frm_yielded _ j hd hv]; cases b <;> rfl, rfl⟩) k
theorem run_ld {t : TypeId} {x : Operand} {b i' : Nat} {v : Value} {o : Oper} {w : World} (hs : Scal P t) (hx : ev n base L x = .pointer (some ⟨b, i', none⟩)) (ho : o.op = .load t x) (hc : w.cell? ⟨b, i', none⟩ = some v) : (execOp (ev n base L) o).run P w = .ok (.value v) w := by
  simp [execOp, ho, hx, Instr.loadAt, Instr.sureAddr, loadVar, hs w, hc]
theorem JM.ld {d : Nat} {t : TypeId} {x : Operand} {b i' : Nat} {T : TypeId} {fr : Nat × Nat} {cs : Array Value} {v : Value} (h : At l i ⟨some d, .load t x, ty, pos, aft, none⟩) (hs : Scal P t) (hx : ev n base L x = .pointer (some ⟨b, i', none⟩))
    (q : Pick (blk b (.cells cs T fr)) As r) (hv : cs[i']? = some v) (k : JM P G l Q s (⟨i, fun w => w.cell? ⟨b, i', none⟩ = some v⟩ :: pd) n base ((d, v) :: L) D As) : JM P G l Q ((i, true) :: s) pd n base L D As :=
  JM.pure _ h rfl (fun w hc => .inl ⟨rfl, .inl (by rw [frm_eval]; exact run_ld hs hx rfl hc)⟩) (fun w hw => hw.cell q hv) k
theorem JM.ldG {d j t' : Nat} {g : Bool} {t : TypeId} {x : Operand} {b i' : Nat} {T : TypeId} {fr : Nat × Nat} {cs : Array Value} {v : Value} (h : At l i ⟨some d, .load t x, ty, pos, aft, some (j, g)⟩) (hd : (l.toArray[j]?).bind (·.dst) = some t') (hg : ev n base L (.tmp t') = .bool g) (hs : Scal P t) (hx : ev n base L x = .pointer (some ⟨b, i', none⟩))
    (q : Pick (blk b (.cells cs T fr)) As r) (hv : cs[i']? = some v) (k : JM P G l Q s (⟨i, fun w => w.cell? ⟨b, i', none⟩ = some v⟩ :: pd) n base ((d, v) :: L) D As) : JM P G l Q ((i, true) :: s) pd n base L D As :=
  JM.pure _ h rfl (fun w hc => .inl ⟨by simp only [Region.wanted, frm_yielded _ j hd hg]; cases g <;> rfl, .inl (by rw [frm_eval]; exact run_ld hs hx rfl hc)⟩) (fun w hw => hw.cell q hv) k
theorem JM.ldA {d : Nat} {t : TypeId} {x : Operand} {b i' m : Nat} {T : TypeId} {fr : Nat × Nat} {cs vs : Array Value} (h : At l i ⟨some d, .load t x, ty, pos, aft, none⟩) (hs : Aggr P t m) (hx : ev n base L x = .pointer (some ⟨b, i', none⟩))
    (q : Pick (blk b (.cells cs T fr)) As r) (hk : i' + m ≤ cs.size) (hv : cs.extract i' (i' + m) = vs) (k : JM P G l Q s (⟨i, fun w => ∃ cs' T' fr', w.heap[b]? = some (.cells cs' T' fr') ∧ i' + m ≤ cs'.size ∧ cs'.extract i' (i' + m) = vs⟩ :: pd) n base ((d, .agg vs) :: L) D As) : JM P G l Q ((i, true) :: s) pd n base L D As :=
  JM.pure _ h rfl (fun w ⟨cs', T', fr', hb, hk', hv'⟩ => .inl ⟨rfl, .inl (by
    have hc := run_loadCells (P := P) hb i' m hk'
    rw [hv'] at hc
    rw [frm_eval]
    simp [execOp, hx, Instr.loadAt, Instr.sureAddr, loadVar, (hs w).1, (hs w).2, hc])⟩) (fun w hw => ⟨cs, T, fr, hw.block_of q, hk, hv⟩) k
/-- Behind an operation that turns memory. -/
def MixK (P : Program) (l : List Oper) (Q : Exit → Act → World → Prop) (s : List (Nat × Bool)) (pd : List Pend) (i : Nat) : Act → World → Prop := fun a w => ∃ pd', (∀ p ∈ pd, p ∈ pd' ∨ Forced l.toArray p.pos i) ∧ (∀ p ∈ pd', p.holds w) ∧ wpMix P l.toArray Q s pd' a w
theorem JM.eff {o : Oper} (h : At l i o) (k : JO P G l.toArray (Exit.then (MixK P l Q s pd i) NoQ) [o] n base L D As) : JM P G l Q ((i, false) :: s) pd n base L D As := by
  refine ⟨fun w hw => ?_⟩
  have h1 := k.run w hw
  simp only [wpMix]
  unfold wpOp
  simp only [h.get]
  unfold wpList at h1
  split
  · rename_i hw'
    simp only [hw', if_true] at h1
    rcases h1 with h1 | h1
    · left
      refine Oper.wp_mono (fun a w h2 => ?_) (upon_noQ (Q := NoQ) (fun _ _ _ h => h) (fun ⟨_, _, h⟩ => h.elim) h1)
      exact h2
    · obtain ⟨_, _, h⟩ := h1.2; exact h.elim
  · rename_i hw'
    simp only [hw'] at h1
    exact h1
theorem JX.mix {pd' : List Pend} (hk : Kept l.toArray i G As pd pd') (k : JM P G l Q s pd' n base L D As) : JX G (Exit.then (MixK P l Q s pd i) NoQ) .normal n base L D As :=
  ⟨fun w hw => ⟨pd', hk.spec.1, hk.spec.2 w hw, k.run w hw⟩⟩
theorem JM.sat {As' : List Asn} (hs : ∀ w, Sat G w As → Sat G w As') (h : JM P G l Q s pd n base L D As') : JM P G l Q s pd n base L D As := ⟨fun w hw => h.run w (hs w hw)⟩
theorem JM.open {α : Type} {f : α → List Asn} (q : Pick (Ex f) As r) (h : ∀ x, JM P G l Q s pd n base L D (f x ++ r)) : JM P G l Q s pd n base L D As :=
  ⟨fun w hw => let ⟨x, hx⟩ := (hw.pick q).opens; (h x).run w hx⟩
theorem JM.shut {α : Type} {f : α → List Asn} (x : α) (q : Picks (f x) As r) (h : JM P G l Q s pd n base L D (Ex f :: r)) : JM P G l Q s pd n base L D As :=
  ⟨fun w hw => h.run w ((hw.picks q).shuts x)⟩
theorem JM.as {A A' : Asn} (q : Pick A As r) (e : A = A') (k : JM P G l Q s pd n base L D (A' :: r)) : JM P G l Q s pd n base L D As := ⟨fun w hw => k.run w (e ▸ hw.pick q)⟩
end
end Go.Proofs.YtfpepghmbeoanaaGreatDoor
end

section
open Go Go.RowKit
namespace Go.Proofs.YtfpepghmbeoanaaGreatDoor
def lk : List (Nat × Value) → Nat → Option Value
  | [], _ => none
  | (k, v) :: l, t => bif Nat.beq k t then some v else lk l t
theorem Lk.find {t : Nat} {v : Value} : ∀ {L : List (Nat × Value)}, lk L t = some v → Lk L t v
  | [], h => by simp [lk] at h
  | (k, u) :: l, h => by
    unfold lk at h
    cases hb : Nat.beq k t with
    | true =>
      rw [hb] at h
      have e := Nat.eq_of_beq_eq_true hb
      subst e
      have : u = v := by simpa using h
      subst this
      exact Lk.here
    | false => rw [hb] at h; exact Lk.there hb (Lk.find (by simpa using h))
theorem xlk {L : List (Nat × Value)} {t : Nat} {u v : Value} (h : lk L t = some u := by exact rfl) (e : u = v := by with_reducible exact rfl) : Lk L t v := e ▸ Lk.find h
theorem xe {n : Nat} {base : Nat → Value} {L : List (Nat × Value)} {t : Nat} {u v : Value} (h : lk L t = some u := by exact rfl) (e : u = v := by with_reducible exact rfl) (ht : Nat.blt t n = true := by exact rfl) : ev n base L (.tmp t) = v := (xlk h e).ev ht
theorem xpick {p : Prop} (h : p := by first | with_reducible exact Pick.here | (with_reducible apply Pick.there; exact xpick) | fail) : p := h
theorem xix {p : Prop} (h : p := by first | exact Ix.zero | (apply Ix.succ; exact xix) | fail) : p := h
theorem xrow {p : Prop} (h : p := by first | with_reducible assumption | exact Ix.get xix | assumption | fail) : p := h
theorem xnorm {p : Prop} (h : p := by first | (simp only [List.setIfInBounds_toArray, List.set_cons_zero, List.set_cons_succ]; rfl) | rfl | fail) : p := h
theorem xoff {p : Prop} (h : p := by first | (simp only [Nat.zero_add, Nat.reduceAdd]; rfl) | rfl | fail) : p := h
theorem xsize {p : Prop} (h : p := by first | with_reducible assumption | exact lt_ble rfl | assumption | omega | (simp; omega) | fail) : p := h
theorem xmult {p : Prop} (h : p := by first | (simp only [Nat.zero_add, Nat.mul_one, Nat.reduceAdd, Nat.reduceMul]; rfl) | rfl | fail) : p := h
theorem xidx {p : Prop} (h : p := by first | with_reducible rfl | exact (Int.natCast_add _ _).symm | exact (Int.natCast_succ _).symm | rfl | omega | fail) : p := h
/-! ### Cells that are the same -/
theorem vcons {a b : Value} {l m : List Value} (h : a = b) (k : l = m) : a :: l = b :: m := h ▸ k ▸ rfl
theorem vint {k : IntKind} {a b : Int} (h : a = b) : Value.int k a = Value.int k b := h ▸ rfl
theorem vbool {a b : Bool} (h : a = b) : Value.bool a = Value.bool b := h ▸ rfl
theorem varr {l m : List Value} (h : l = m) : l.toArray = m.toArray := h ▸ rfl
theorem tup2 {a b a' b' : Value} (h : a = a') (k : b = b') : Value.tuple #[a, b] = Value.tuple #[a', b'] := h ▸ k ▸ rfl
theorem tup3 {a b c a' b' c' : Value} (h : a = a') (k : b = b') (l : c = c') : Value.tuple #[a, b, c] = Value.tuple #[a', b', c'] := h ▸ k ▸ l ▸ rfl
/-- One value. -/
theorem xval {p : Prop} (h : p := by first | rfl | (refine vint ?_; first | omega | (push_cast; omega) | (simp; done) | (simp; omega)) | (simp; done) | assumption | fail) : p := h
theorem xvals {p : Prop} (h : p := by first | with_reducible rfl | (refine vcons xval ?_; exact xvals) | fail) : p := h
theorem xcells {p : Prop} (h : p := by first | (refine varr ?_; exact xvals) | (congr 1; exact xval) | fail) : p := h
abbrev vu8 (x : Nat) : Value := .int .u8 (x : Int)
/-- Bytes as cells. -/
def u8s (l : List Nat) : List Value := l.map vu8
theorem u8s_len (l : List Nat) : (u8s l).length = l.length := by simp [u8s]
theorem u8s_append (a b : List Nat) : u8s (a ++ b) = u8s a ++ u8s b := by simp [u8s]
theorem u8s_one {l : List Nat} : ∀ v ∈ u8s l, v.oneCell' = true := by simp [u8s, Value.oneCell']
theorem u8s_snoc {a : List Nat} {x : Nat} {y : Int} (h : y = x) : u8s a ++ [.int .u8 y] = u8s (a ++ [x]) := by subst h; simp [u8s]
theorem row_eq {e : TypeId} {v : Value} {xs ys : List Value} (h : xs = ys) : Row e v xs = Row e v ys := h ▸ rfl
theorem rowslice_eq {e : TypeId} {a : Option Addr} {n m c : Nat} {xs ys : List Value} (hn : n = m) (h : xs = ys) : Row e (.slice a n c) xs = Row e (.slice a m c) ys := hn ▸ h ▸ rfl


theorem Picks.celE {b : Nat} {T : TypeId} {cs cs' : Array Value} {p l l1 r : List Asn} (h : Pick (cel b T cs') l l1) (e : cs' = cs) (k : Picks p l1 r) : Picks (cel b T cs :: p) l r := e ▸ .cons h k
theorem Picks.rowE {t : TypeId} {v : Value} {xs xs' : List Value} {p l l1 r : List Asn} (h : Pick (Row t v xs') l l1) (e : xs' = xs) (k : Picks p l1 r) : Picks (Row t v xs :: p) l r := e ▸ .cons h k
theorem xxs {p : Prop} (h : p := by first | rfl | assumption | (simp only [u8s, List.map_append, List.map_cons, List.map_nil, List.append_assoc, List.cons_append, List.nil_append, List.append_nil, List.replicate_zero, List.map_replicate]; done) | (simp [u8s]; done) | fail) : p := h
theorem xpicks {p : Prop} (h : p := by first | with_reducible exact Picks.nil | (with_reducible apply Picks.cons; (focus exact xpick); (focus exact xpicks)) | (apply Picks.celE; (focus exact xpick); (focus exact xcells); (focus exact xpicks)) | (apply Picks.rowE; (focus exact xpick); (focus exact xxs); (focus exact xpicks)) | (apply Picks.ex; dsimp only [List.cons_append, List.nil_append]; exact xpicks) | fail) : p := h
/-- What is held, made ready and picked. -/
theorem xpk {p : Prop} (h : p := by (try dsimp only [List.cons_append, List.nil_append]); exact xpicks) : p := h
theorem xagree {p : Prop} (h : p := by first | exact Agree.nil | (refine Agree.eq xlk xval ?_; exact xagree) | fail) : p := h
theorem xag {p : Prop} (h : p := by (try dsimp only); exact xagree) : p := h
theorem r_i64 {x : Int} (h : 0 ≤ x ∧ x ≤ 9223372036854775807) : 0 ≤ x ∧ x.toNat < 2 ^ IntKind.i64.bits := ⟨h.1, by simp only [IntKind.bits]; omega⟩
section
variable {P : Program} {G : Gst} {n : Nat} {base : Nat → Value} {L : List (Nat × Value)} {As : List Asn}
theorem Py.to {op : Op} {v v' : Value} (h : Py P G n base L As op v) (e : v = v') : Py P G n base L As op v' := e ▸ h
/-- A shift to the right by a count that is known as a number. -/
theorem Py.shrN (s : Nat) {xt yt : TypeId} {x y : Operand} {k j : IntKind} {a : Nat} {b : Int} (hx : ev n base L x = .int k (a : Int)) (hy : ev n base L y = .int j b) (hs : b = s) (hb : s ≤ k.bits) :
    Py P G n base L As (.binOp .shr xt x y yt) (.int k ((a / 2 ^ s : Nat) : Int)) :=
  (Py.shr s (2 ^ s) hx hy hs hb rfl (Int.pow_nonneg (by decide))).to (by simp)
theorem Py.shlN (s : Nat) {xt yt : TypeId} {x y : Operand} {k j : IntKind} {a b : Int} {c : Int} (hx : ev n base L x = .int k a) (hy : ev n base L y = .int j b) (hs : b = s) (hb : s ≤ k.bits) (hc : k.wrap (a * 2 ^ s) = c) :
    Py P G n base L As (.binOp .shl xt x y yt) (.int k c) := Py.shl s (2 ^ s) hx hy hs hb rfl hc
end
section
variable {P : Program} {G : Gst} {ops : Array Oper} {Q : Exit → Act → World → Prop} {n : Nat} {base : Nat → Value} {L : List (Nat × Value)} {D : List Deferred} {As r : List Asn}
  {ty : TypeId} {pos : String} {aft : Array Edge} {rest : List Oper}
theorem JO.boxA {t : TypeId} {d : Nat} {x : Operand} {cs : Array Value} (hx : ev n base L x = .agg cs) (k : ∀ b, JO P G ops Q rest n base ((d, .pointer (some ⟨b, 0, none⟩)) :: L) D (cel b t cs :: As)) :
    JO P G ops Q (⟨some d, .box t x, ty, pos, aft, none⟩ :: rest) n base L D As := JO.box hx rfl k
theorem JO.box1 {t : TypeId} {d : Nat} {x : Operand} {v : Value} (hx : ev n base L x = v) (h1 : v.oneCell' = true) (k : ∀ b, JO P G ops Q rest n base ((d, .pointer (some ⟨b, 0, none⟩)) :: L) D (cel b t #[v] :: As)) :
    JO P G ops Q (⟨some d, .box t x, ty, pos, aft, none⟩ :: rest) n base L D As := JO.box hx (cells_one h1) k
theorem JO.allocA {t : TypeId} {d : Nat} {cs : Array Value} (hz : Zer P t (.agg cs)) (k : ∀ b, JO P G ops Q rest n base ((d, .pointer (some ⟨b, 0, none⟩)) :: L) D (cel b t cs :: As)) :
    JO P G ops Q (⟨some d, .alloc t, ty, pos, aft, none⟩ :: rest) n base L D As := JO.alloc hz rfl k
theorem JO.alloc1 {t : TypeId} {d : Nat} {z : Value} (hz : Zer P t z) (h1 : z.oneCell' = true) (k : ∀ b, JO P G ops Q rest n base ((d, .pointer (some ⟨b, 0, none⟩)) :: L) D (cel b t #[z] :: As)) :
    JO P G ops Q (⟨some d, .alloc t, ty, pos, aft, none⟩ :: rest) n base L D As := JO.alloc hz (cells_one h1) k
end
/-- A cut behind a piece of code: what is known there. -/
theorem JC.mid {P : Program} {G : Gst} {Q : Exit → Act → World → Prop} {n : Nat} {base : Nat → Value} {L : List (Nat × Value)} {D : List Deferred} {As : List Asn} {ι : Type} {x : Code} (Li : ι → List (Nat × Value)) (Ai : ι → List Asn)
    (h1 : JC P G (Exit.then (fun a w => ∃ (i : ι) (base' : Nat → Value), a = frm n base' (Li i) D ∧ Sat G w (Ai i)) Q) x n base L D As)
    (h2 : ∀ (i : ι) (base' : Nat → Value), JX G Q .normal n base' (Li i) D (Ai i)) : JC P G Q x n base L D As :=
  ⟨fun w hw => wp_mono (h1.run w hw) fun e a w' hq => by
    cases e with
    | normal => obtain ⟨i, base', rfl, hs⟩ := hq; exact (h2 i base').run w' hs
    | _ => exact hq⟩
section
variable {P : Program} {G : Gst} {n : Nat} {base : Nat → Value} {L : List (Nat × Value)} {As : List Asn}
/-- Bits of numbers of 64 bits that are not below nought. -/
theorem Py.orS {xt yt : TypeId} {x y : Operand} {a b : Int} (hx : ev n base L x = .int .i64 a) (hy : ev n base L y = .int .i64 b) (ha : 0 ≤ a ∧ a ≤ 9223372036854775807) (hb : 0 ≤ b ∧ b ≤ 9223372036854775807) :
    Py P G n base L As (.binOp .or xt x y yt) (.int .i64 ((a.toNat ||| b.toNat : Nat) : Int)) :=
  Py.or hx hy (r_i64 ha) (r_i64 hb) (w_i64 (by have := Nat.or_lt_two_pow (x := a.toNat) (y := b.toNat) (n := 63) (by omega) (by omega); omega))
theorem Py.xorS {xt yt : TypeId} {x y : Operand} {a b : Int} (hx : ev n base L x = .int .i64 a) (hy : ev n base L y = .int .i64 b) (ha : 0 ≤ a ∧ a ≤ 9223372036854775807) (hb : 0 ≤ b ∧ b ≤ 9223372036854775807) :
    Py P G n base L As (.binOp .xor xt x y yt) (.int .i64 ((a.toNat ^^^ b.toNat : Nat) : Int)) :=
  Py.xor hx hy (r_i64 ha) (r_i64 hb) (w_i64 (by have := Nat.xor_lt_two_pow (x := a.toNat) (y := b.toNat) (n := 63) (by omega) (by omega); omega))
theorem Py.andS {xt yt : TypeId} {x y : Operand} {a b : Int} (hx : ev n base L x = .int .i64 a) (hy : ev n base L y = .int .i64 b) (ha : 0 ≤ a ∧ a ≤ 9223372036854775807) (hb : 0 ≤ b ∧ b ≤ 9223372036854775807) :
    Py P G n base L As (.binOp .and xt x y yt) (.int .i64 ((a.toNat &&& b.toNat : Nat) : Int)) :=
  Py.and hx hy (r_i64 ha) (r_i64 hb) (w_i64 (by have := Nat.and_lt_two_pow a.toNat (y := b.toNat) (n := 63) (by omega); omega))
end
/-- A contract by another. -/
theorem Con.conseq {P : Program} {G : Gst} {f : FuncId} {args : Array Value} {Pre Pre' : List Asn} {ι ι' : Type} {v : ι → Value} {v' : ι' → Value} {Post : ι → List Asn} {Post' : ι' → List Asn} (h : Con P G f args Pre v Post)
    (k : ∀ F w, Sat G w (Pre' ++ [F]) → ∃ F', Sat G w (Pre ++ [F']) ∧ ∀ i w', Sat G w' (Post i ++ [F']) → ∃ j, v i = v' j ∧ Sat G w' (Post' j ++ [F])) : Con P G f args Pre' v' Post' :=
  ⟨h.1, fun F w hw => by
    obtain ⟨F', hw', hk⟩ := k F w hw
    refine (h.2 F' w hw').mono ?_
    rintro e w'' ⟨i, rfl, hs⟩
    obtain ⟨j, hj, hs'⟩ := hk i w'' hs
    exact ⟨j, by rw [hj], hs'⟩⟩
section
variable {P : Program} {G : Gst} {ops : Array Oper} {Q : Exit → Act → World → Prop} {n : Nat} {base : Nat → Value} {L : List (Nat × Value)} {D : List Deferred} {As : List Asn} {d : Nat} {op : Op} {ty : TypeId} {pos : String} {aft : Array Edge} {rest : List Oper} {v : Value} {t j : Nat} {u : Value}
theorem oM (k : JO P G ops Q rest n base ((d, v) :: L) D As) (h : lk L t = some u := by exact rfl) (e : u = v := by with_reducible exact rfl) (ht : Nat.blt t n = true := by exact rfl) : JO P G ops Q (⟨some d, .move (.tmp t), ty, pos, aft, none⟩ :: rest) n base L D As := JO.py (Py.move ((xlk h e).ev ht)) k
theorem oA (k : JO P G ops Q rest n base ((d, v) :: L) D As) (h : lk L t = some u := by exact rfl) (e : u = v := by with_reducible exact rfl) (ht : Nat.blt t n = true := by exact rfl) : JO P G ops Q (⟨some d, .assign (.tmp t), ty, pos, aft, none⟩ :: rest) n base L D As := JO.py (Py.assign ((xlk h e).ev ht)) k
theorem oC (k : JO P G ops Q rest n base ((d, v) :: L) D As) : JO P G ops Q (⟨some d, .assign (.const v), ty, pos, aft, none⟩ :: rest) n base L D As := JO.py (Py.assign ev_const) k
theorem oD {p : Prop} [Decidable p] (h : Py P G n base L As op (.bool (decide p))) (k : JO P G ops Q rest n base ((d, .bool true) :: L) D As) (hp : p := by omega) : JO P G ops Q (⟨some d, op, ty, pos, aft, none⟩ :: rest) n base L D As := JO.py (Py.dec h hp) k
theorem oU {p : Prop} [Decidable p] (h : Py P G n base L As op (.bool (decide p))) (k : JO P G ops Q rest n base ((d, .bool false) :: L) D As) (hp : ¬ p := by omega) : JO P G ops Q (⟨some d, op, ty, pos, aft, none⟩ :: rest) n base L D As := JO.py (Py.undec h hp) k
theorem cF {c : Operand} {x y : Code} (k : JC P G Q y n base L D As) (hc : ev n base L c = .bool false := by first | exact xe | exact (xe).trans (vbool (decide_eq_false (by omega)))) : JC P G Q (.cond c x y) n base L D As := JC.condF hc k
theorem cT {c : Operand} {x y : Code} (k : JC P G Q x n base L D As) (hc : ev n base L c = .bool true := by first | exact xe | exact (xe).trans (vbool (decide_eq_true (by omega)))) : JC P G Q (.cond c x y) n base L D As := JC.condT hc k
theorem nC {c : Code} {Q' : Exit → Act → World → Prop} (h : JC P G Q' c n base L D As) : JO P G ops (Exit.then (fun a w => c.wp P Q' a w) Q) [] n base L D As := JO.nil (JX.code h)
theorem sR {id : Nat} {l : List Oper} {y : Code} (h : JO P G l.toArray (Exit.then (fun a w => y.wp P Q a w) Q) l n base L D As) : JC P G Q (.seq (.region id l.toArray false) y) n base L D As := JC.seq (JC.region h)
theorem gT {d : Option Nat} (k : JO P G ops Q (⟨d, op, ty, pos, aft, none⟩ :: rest) n base L D As) (hd : (ops[j]?).bind (·.dst) = some t := by exact rfl) (h : lk L t = some u := by exact rfl) (e : u = .bool true := by with_reducible exact rfl) (ht : Nat.blt t n = true := by exact rfl) : JO P G ops Q (⟨d, op, ty, pos, aft, some (j, true)⟩ :: rest) n base L D As := JO.go hd ((xlk h e).ev ht) k
theorem gF {d : Option Nat} (k : JO P G ops Q (⟨d, op, ty, pos, aft, none⟩ :: rest) n base L D As) (hd : (ops[j]?).bind (·.dst) = some t := by exact rfl) (h : lk L t = some u := by exact rfl) (e : u = .bool false := by with_reducible exact rfl) (ht : Nat.blt t n = true := by exact rfl) : JO P G ops Q (⟨d, op, ty, pos, aft, some (j, false)⟩ :: rest) n base L D As := JO.go hd ((xlk h e).ev ht) k
theorem kF (k : JO P G ops Q rest n base ((d, undef) :: L) D As) (hd : (ops[j]?).bind (·.dst) = some t := by exact rfl) (h : lk L t = some u := by exact rfl) (e : u = .bool false := by with_reducible exact rfl) (ht : Nat.blt t n = true := by exact rfl) : JO P G ops Q (⟨some d, op, ty, pos, aft, some (j, true)⟩ :: rest) n base L D As := JO.skipS hd ((xlk h e).ev ht) k
theorem kT (k : JO P G ops Q rest n base ((d, undef) :: L) D As) (hd : (ops[j]?).bind (·.dst) = some t := by exact rfl) (h : lk L t = some u := by exact rfl) (e : u = .bool true := by with_reducible exact rfl) (ht : Nat.blt t n = true := by exact rfl) : JO P G ops Q (⟨some d, op, ty, pos, aft, some (j, false)⟩ :: rest) n base L D As := JO.skipS hd ((xlk h e).ev ht) k
theorem wI {x : Int} (h : -9223372036854775808 ≤ x ∧ x ≤ 9223372036854775807 := by omega) : IntKind.i64.wrap x = x := w_i64 h
end
end Go.Proofs.YtfpepghmbeoanaaGreatDoor
end

section
open Go Go.RowKit Go.MapKept
namespace Go.Proofs.YtfpepghmbeoanaaGreatDoor
section
variable {P : Program} {G : Gst} {ops : Array Oper} {Q : Exit → Act → World → Prop} {n : Nat} {base : Nat → Value} {L : List (Nat × Value)} {D : List Deferred} {As r : List Asn}
  {ty : TypeId} {pos : String} {aft : Array Edge} {rest : List Oper}
/-- 'make([]T, n, m)' of one-cell elements. -/
theorem run_mkslice {t e : TypeId} {z : Value} {bytes m c : Nat} {k k' : IntKind} {w : World} (ht : P.underlying t = some (.slice e)) (he : Elm P e z bytes) (hmc : m ≤ c) (hb : c * bytes ≤ 281474976710656) (hc : c ≤ 281474976710656) :
    (Instr.makeSlice t (.int k (m : Int)) (.int k' (c : Int))).run P w = .ok (.slice (some ⟨w.heap.size, 0, none⟩) m c) (w.alloc (.cells (Array.replicate c z) e)) := by
  obtain ⟨i, hi, hz, hs, hib⟩ := he.inf
  have hb' : (i.bytes : Int) * (c : Int) ≤ 281474976710656 := by
    have h : ((i.bytes * c : Nat) : Int) ≤ 281474976710656 := by rw [hib, Nat.mul_comm]; omega
    rwa [Int.natCast_mul] at h
  have hr := run_make (P := P) w t e i z ht hi hz k k' m c (by omega) (by omega) hb' (by omega)
  rw [hr, Int.toNat_natCast, Int.toNat_natCast, hs, Nat.mul_one, cells_one he.one]
  congr 3
  apply Array.ext
  · simp [madeCells]
  · intro j h1 h2; simp [madeCells, Nat.mod_one]
theorem JO.mkslice {t e : TypeId} {d : Nat} {x y : Operand} {z : Value} {bytes m c : Nat} {k k' : IntKind} {mi ci : Int} (ht : P.underlying t = some (.slice e)) (he : Elm P e z bytes) (hx : ev n base L x = .int k mi) (hy : ev n base L y = .int k' ci) (hm : mi = (m : Int)) (hci : ci = (c : Int)) (hmc : m ≤ c) (hb : c * bytes ≤ 281474976710656) (hc : c ≤ 281474976710656)
    (kk : ∀ b, JO P G ops Q rest n base ((d, .slice (some ⟨b, 0, none⟩) m c) :: L) D (cel b e (Array.replicate c z) :: As)) :
    JO P G ops Q (⟨some d, .makeSlice t x y, ty, pos, aft, none⟩ :: rest) n base L D As := by
  subst hm hci
  refine ⟨fun w hw => ?_⟩
  refine wpList_plain rfl fun K hK => ?_
  show Oper.upon P _ _ _ _ _
  have e : (execOp (frm n base L D).eval ⟨some d, .makeSlice t x y, ty, pos, aft, none⟩).run P w = .ok (.value (.slice (some ⟨w.heap.size, 0, none⟩) m c)) (w.alloc (.cells (Array.replicate c z) e)) := by
    rw [frm_eval]
    simp [execOp, hx, hy, run_mkslice ht he hmc hb hc]
  rw [e]
  show K _ _
  rw [show (frm n base L D).put _ _ = _ from frm_put d _]
  exact hK _ _ ((kk _).run _ (hw.alloc _))

theorem Py.extrI {x : Operand} {i : Nat} {l : List Value} {v : Value} (hx : ev n base L x = .tuple l.toArray) (h : Ix l i v) : Py P G n base L As (.extract x i) v := by
  refine ⟨fun w _ o ho => ?_⟩
  have := h.get
  simp [execOp, ho, hx, Instr.extract] at this ⊢
  simp [this]
/-- A whole variable is stored. -/
theorem JO.storeW {t : TypeId} {x y : Operand} {b m : Nat} {T : TypeId} {cs vs : Array Value} (hz : Siz P t m) (hx : ev n base L x = .pointer (some ⟨b, 0, none⟩)) (hy : ev n base L y = .agg vs) (hm : vs.size = m) (h1 : ∀ v ∈ vs.toList, v.oneCell' = true)
    (q : Pick (cel b T cs) As r) (hi : cs.size = m) (k : JO P G ops Q rest n base L D (cel b T vs :: r)) :
    JO P G ops Q (⟨none, .store t x y, ty, pos, aft, none⟩ :: rest) n base L D As := by
  subst hm
  exact JO.storeA hz hx hy h1 q (by omega) (by rw [putAll_whole _ _ (by rw [hi]; simp)]) k
/-- Nothing is held. -/
theorem JC.free {A : Asn} (hA : A fun _ => none) {c : Code} (k : JC P G Q c n base L D (A :: As)) : JC P G Q c n base L D As :=
  ⟨fun w hw => k.run w (hw.of fun hs => ⟨fun _ => none, _, fun _ => .inl rfl, by funext k; simp [Hp.un], hA, hs⟩)⟩
theorem JO.free {A : Asn} (hA : A fun _ => none) {l : List Oper} (k : JO P G ops Q l n base L D (A :: As)) : JO P G ops Q l n base L D As :=
  ⟨fun w hw => k.run w (hw.of fun hs => ⟨fun _ => none, _, fun _ => .inl rfl, by funext k; simp [Hp.un], hA, hs⟩)⟩
/-! ### Slices of slices -/
/-- A bound that may be left out. -/
inductive Bd (n : Nat) (base : Nat → Value) (L : List (Nat × Value)) (dflt : Nat) : Option Operand → Nat → Prop
  | none : Bd n base L dflt none dflt
  | some {x : Operand} {k : IntKind} {i : Int} {j : Nat} : ev n base L x = .int k i → i = (j : Int) → Bd n base L dflt (some x) j
theorem run_slc {t e : TypeId} {sz b o len cap l h : Nat} {lo hi : Option Operand} {w : World} (ht : P.underlying t = some (.slice e)) (hz : Siz P e sz) (hlo : Bd n base L 0 lo l) (hhi : Bd n base L len hi h) (hl : l ≤ h) (hh : h ≤ cap) :
    (Instr.sliceAt t (.slice (some ⟨b, o, none⟩) len cap) (lo.map (ev n base L)) (hi.map (ev n base L)) none).run P w = .ok (.slice (some ⟨b, if cap = l then o else o + l * sz, none⟩) (h - l) (cap - l)) w := by
  have hz' := hz w
  have hfin : (if cap = l then (some ⟨b, o, none⟩ : Option Addr) else Option.map (fun (x : Addr) => x.add (l * sz)) (some ⟨b, o, none⟩)) = some ⟨b, if cap = l then o else o + l * sz, none⟩ := by
    split <;> simp [add_off]
  have hfin2 : (if cap = l then (some ⟨b, o, none⟩ : Option Addr) else some ((⟨b, o, none⟩ : Addr).add (l * sz))) = some ⟨b, if cap = l then o else o + l * sz, none⟩ := by
    split <;> simp [add_off]
  have hb : ∀ {x : Operand} {k : IntKind} {i : Int} {j y : Nat} {code : BoundsCode}, ev n base L x = .int k i → i = (j : Int) → j ≤ y → (Instr.sliceBound (ev n base L x) y code).run P w = .ok j w := by
    intro x k i j y code hx hi hj
    subst hi
    rw [hx]
    exact run_sliceBound w k (j : Int) _ _ (by omega) (by omega)
  unfold Instr.sliceAt
  simp only [Sem.run_bind, run_underlying ht, Result.andThen_ok]
  unfold Instr.slice
  simp only [Sem.run_bind, run_underlying ht, Result.andThen_ok]
  unfold Instr.sliceBounds
  cases hhi with
  | none =>
    cases hlo with
    | none => simp only [Option.map_none, Sem.run_bind, Sem.run_pure, Result.andThen_ok, hz', hfin, hfin2]
    | some hx hi' => simp only [Option.map_none, Option.map_some, Sem.run_bind, Sem.run_pure, Result.andThen_ok, hb hx hi' hl, hz', hfin, hfin2]
  | some hy hj =>
    cases hlo with
    | none => simp only [Option.map_none, Option.map_some, Sem.run_bind, Sem.run_pure, Result.andThen_ok, hb hy hj hh, hz', hfin, hfin2]
    | some hx hi' => simp only [Option.map_none, Option.map_some, Sem.run_bind, Sem.run_pure, Result.andThen_ok, hb hy hj hh, hb hx hi' hl, hz', hfin, hfin2]
theorem Py.slc {t e : TypeId} {x : Operand} {sz b o len cap l h : Nat} {lo hi : Option Operand} (ht : P.underlying t = some (.slice e)) (hz : Siz P e sz) (hx : ev n base L x = .slice (some ⟨b, o, none⟩) len cap) (hlo : Bd n base L 0 lo l) (hhi : Bd n base L len hi h) (hl : l ≤ h) (hh : h ≤ cap) (hlt : l < cap) {p : Nat} (hp : o + l * sz = p) {q c : Nat} (hq : h - l = q) (hc : cap - l = c) :
    Py P G n base L As (.slice t x lo hi none) (.slice (some ⟨b, p, none⟩) q c) := by
  refine ⟨fun w _ o' ho => ?_⟩
  subst hp hq hc
  have := run_slc (P := P) (w := w) ht hz hlo hhi hl hh (b := b) (o := o)
  rw [if_neg (by omega)] at this
  simp [execOp, ho, hx, this]
/-- The end of what there is room for. -/
theorem Py.slcE {t e : TypeId} {x : Operand} {sz b o len cap l h : Nat} {lo hi : Option Operand} (ht : P.underlying t = some (.slice e)) (hz : Siz P e sz) (hx : ev n base L x = .slice (some ⟨b, o, none⟩) len cap) (hlo : Bd n base L 0 lo l) (hhi : Bd n base L len hi h) (hl : l ≤ h) (hh : h ≤ cap) (hlt : l = cap) :
    Py P G n base L As (.slice t x lo hi none) (.slice (some ⟨b, o, none⟩) 0 0) := by
  refine ⟨fun w _ o' ho => ?_⟩
  have := run_slc (P := P) (w := w) ht hz hlo hhi hl hh (b := b) (o := o)
  rw [if_pos hlt.symm, show h - l = 0 by omega, show cap - l = 0 by omega] at this
  simp [execOp, ho, hx, this]
/-- Of nil. -/
theorem Py.slcN {t e : TypeId} {x : Operand} {sz : Nat} {lo hi : Option Operand} (ht : P.underlying t = some (.slice e)) (hz : Siz P e sz) (hx : ev n base L x = .slice none 0 0) (hlo : Bd n base L 0 lo 0) (hhi : Bd n base L 0 hi 0) :
    Py P G n base L As (.slice t x lo hi none) (.slice none 0 0) := by
  refine ⟨fun w _ o' ho => ?_⟩
  have hz' := hz w
  have : (Instr.sliceAt t (.slice none 0 0) (lo.map (ev n base L)) (hi.map (ev n base L)) none).run P w = .ok (.slice none 0 0) w := by
    simp only [Instr.sliceAt, Instr.slice, Instr.sliceBounds, Sem.run_bind, run_underlying ht, Result.andThen_ok, Sem.run_pure]
    cases hhi with
    | none =>
      cases hlo with
      | none => simp [hz']
      | some hx hi' => simp [hx, hi', Instr.sliceBound, asIntOf, hz']
    | some hy hj =>
      cases hlo with
      | none => simp [hy, hj, Instr.sliceBound, asIntOf, hz']
      | some hx hi' => simp [hx, hi', hy, hj, Instr.sliceBound, asIntOf, hz']
  simp [execOp, ho, hx, this]
/-- An element of an array's value. -/
theorem Py.index {t e : TypeId} {x y : Operand} {len : Nat} {cs : Array Value} {k : IntKind} {i : Int} {j : Nat} {v : Value} (ht : P.underlying t = some (.array len e)) (hz : Siz P e 1) (hs : Scal P e) (hx : ev n base L x = .agg cs) (hy : ev n base L y = .int k i) (hj : i = (j : Int)) (hi : j < len) (hv : cs[j]? = some v) :
    Py P G n base L As (.index t x y) v := by
  refine ⟨fun w _ o ho => ?_⟩
  subst hj
  have hz' := hz w
  have hs' := hs w
  have h1 : (0 : Int) ≤ (j : Int) ∧ (j : Int) < (len : Int) := ⟨by omega, by omega⟩
  simp [execOp, ho, hx, hy, Instr.index, asIntOf, run_underlying ht, hi, hz', part, hs', hv]

/-! ### Built values -/
/-- How a value of this type is built. -/
structure Bld (P : Program) (t : TypeId) (places : List (Nat × Nat)) (zs : Array Value) : Prop where
  run : ∀ parts cs, Instr.fill (fun i => places[i]?) zs parts = some cs → P.built t parts = some cs
theorem fill_mono {f g : Nat → Option (Nat × Nat)} (h : ∀ i x, f i = some x → g i = some x) : ∀ (l : List (Nat × Value)) (cs cs' : Array Value), Instr.fill f cs l = some cs' → Instr.fill g cs l = some cs'
  | [], _, _, hf => hf
  | (i, v) :: l, cs, cs', hf => by
    simp only [Instr.fill] at hf ⊢
    cases hi : f i with
    | none => simp [hi] at hf
    | some x =>
      simp only [hi] at hf
      simp only [h i x hi]
      split at hf
      · cases hf
      · rename_i hn
        rw [if_neg hn]
        exact fill_mono h l _ _ hf
theorem Bld.ofS {t : TypeId} {places : List (Nat × Nat)} {zs : Array Value} (hi : (P.info? t).map (·.zero) = some (some (.agg zs)))
    (hf : (match P.underlying t with | some (.struct fields) => fields.toList.mapM (fun f => (P.info? f.type).map fun i => (f.offset, i.size)) | _ => none) = some places) : Bld P t places zs := by
  refine ⟨fun parts cs h => ?_⟩
  obtain ⟨it, hit, hz⟩ := Option.map_eq_some_iff.1 hi
  cases hu : P.underlying t with
  | none => simp [hu] at hf
  | some d =>
    cases d <;> simp only [hu] at hf <;> try (cases hf; done)
    unfold Program.built
    simp only [hit, hu, hz, hf]
    simpa [Value.cells] using h
theorem Bld.ofA {t : TypeId} {k n : Nat} {zs : Array Value} (hi : (P.info? t).map (·.zero) = some (some (.agg zs)))
    (hf : (match P.underlying t with | some (.array _ e) => (P.info? e).map (·.size) | _ => none) = some k) : Bld P t ((List.range n).map fun i => (i * k, k)) zs := by
  refine ⟨fun parts cs h => ?_⟩
  obtain ⟨it, hit, hz⟩ := Option.map_eq_some_iff.1 hi
  cases hu : P.underlying t with
  | none => simp [hu] at hf
  | some d =>
    cases d <;> simp only [hu] at hf <;> try (cases hf; done)
    obtain ⟨ie, hie, hk⟩ := Option.map_eq_some_iff.1 hf
    unfold Program.built
    simp only [hit, hu, hz, hie]
    refine fill_mono (fun i x hx => ?_) _ _ _ h
    simp only [List.getElem?_map, Option.map_eq_some_iff] at hx
    obtain ⟨j, hj, rfl⟩ := hx
    have : j = i := by
      have := List.getElem?_eq_some_iff.1 hj
      obtain ⟨hlt, e⟩ := this
      simpa using e.symm
    rw [this, hk]
inductive Fl (places : List (Nat × Nat)) : Array Value → List (Nat × Value) → Array Value → Prop
  | nil {cs : Array Value} : Fl places cs [] cs
  | one {cs cs' cs'' : Array Value} {i off : Nat} {v : Value} {l : List (Nat × Value)} : places[i]? = some (off, 1) → v.oneCell' = true → off < cs.size → cs.setIfInBounds off v = cs' → Fl places cs' l cs'' → Fl places cs ((i, v) :: l) cs''
  | agg {cs cs' cs'' vs : Array Value} {i off k : Nat} {l : List (Nat × Value)} : places[i]? = some (off, k) → vs.size = k → off + k ≤ cs.size → putAll cs off vs.toList = cs' → Fl places cs' l cs'' → Fl places cs ((i, .agg vs) :: l) cs''
theorem fold_putAll : ∀ (l : List Value) (off k : Nat) (cs : Array Value), (l.zipIdx k).foldl (fun cs (c, j) => cs.setIfInBounds (off + j) c) cs = putAll cs (off + k) l
  | [], _, _, _ => rfl
  | v :: l, off, k, cs => by simp only [List.zipIdx_cons, List.foldl_cons, putAll]; rw [fold_putAll l off (k + 1)]; rfl
theorem Fl.fill {places : List (Nat × Nat)} {cs cs' : Array Value} {l : List (Nat × Value)} (h : Fl places cs l cs') : Instr.fill (fun i => places[i]?) cs l = some cs' := by
  induction h with
  | nil => rfl
  | one hp h1 ho hs _ ih =>
    simp only [Instr.fill, hp, cells_one h1]
    rw [if_neg (by simp; omega)]
    rw [show (#[_] : Array Value).zipIdx.foldl _ _ = _ from by simp; exact hs]
    exact ih
  | @agg cs cs2 cs3 vs i off k l hp hk ho hs _ ih =>
    have hc : (Value.agg vs).cells = vs := rfl
    simp only [Instr.fill, hp, hc]
    have hn : (decide (vs.size ≠ k) || decide (off + vs.size > cs.size)) = false := by simp [hk]; omega
    have : vs.zipIdx.foldl (fun cs (c, j) => cs.setIfInBounds (off + j) c) cs = putAll cs off vs.toList := by
      have := fold_putAll vs.toList off 0 cs
      rw [← Array.foldl_toList]
      simpa [Array.toList_zipIdx] using this
    rw [if_neg (by rw [hn]; simp), this, hs]
    exact ih
inductive Pts (n : Nat) (base : Nat → Value) (L : List (Nat × Value)) : List (Nat × Operand) → List (Nat × Value) → Prop
  | nil : Pts n base L [] []
  | cons {i : Nat} {x : Operand} {v : Value} {l : List (Nat × Operand)} {m : List (Nat × Value)} : ev n base L x = v → Pts n base L l m → Pts n base L ((i, x) :: l) ((i, v) :: m)
theorem Pts.map {l : List (Nat × Operand)} {m : List (Nat × Value)} (h : Pts n base L l m) : l.map (fun (i, x) => (i, ev n base L x)) = m := by
  induction h with
  | nil => rfl
  | cons h _ ih => simp [h, ih]
theorem Py.build {t : TypeId} {places : List (Nat × Nat)} {zs cs : Array Value} {l : List (Nat × Operand)} {m : List (Nat × Value)} (hb : Bld P t places zs) (hp : Pts n base L l m) (hf : Fl places zs m cs) :
    Py P G n base L As (.build t l.toArray) (.agg cs) := by
  refine ⟨fun w _ o ho => ?_⟩
  have h1 : (l.toArray.map fun (i, x) => (i, ev n base L x)) = m.toArray := by
    apply Array.ext'
    simp [← hp.map]
  have h2 : (Instr.build t m.toArray).run P w = .ok (.agg cs) w := run_build w t _ _ (hb.run _ _ (by simpa using hf.fill))
  simp only [execOp, ho]
  rw [h1]
  simp [h2]

/-! ### Maps of numbers -/
theorem JO.mkmap {t : TypeId} {d : Nat} (k : ∀ b, JO P G ops Q rest n base ((d, .map (some b)) :: L) D (blk b (.map #[] 0) :: As)) :
    JO P G ops Q (⟨some d, .makeMap t none, ty, pos, aft, none⟩ :: rest) n base L D As := by
  refine ⟨fun w hw => ?_⟩
  refine wpList_plain rfl fun K hK => ?_
  show Oper.upon P _ _ _ _ _
  have e : (execOp (frm n base L D).eval ⟨some d, .makeMap t none, ty, pos, aft, none⟩).run P w = .ok (.value (.map (some w.heap.size))) (w.alloc (.map #[] 0)) := by
    simp [execOp, Instr.makeMap]
  rw [e]
  show K _ _
  rw [show (frm n base L D).put _ _ = _ from frm_put d _]
  exact hK _ _ ((k _).run _ (hw.alloc _))
/-- A map from numbers of 64 bits to values that X holds of. -/
def MapI (b : Nat) (X : Value → Prop) : Asn := fun h => ∃ es clock, (∀ e ∈ es.toList, (∃ k : Int, e.key = .int .i64 k) ∧ X e.val) ∧ blk b (.map es clock) h
theorem MapI.new {b : Nat} {X : Value → Prop} {h : Hp} (hb : blk b (.map #[] 0) h) : MapI b X h := ⟨#[], 0, by simp, hb⟩
theorem MapI.mono {b : Nat} {X Y : Value → Prop} (hXY : ∀ v, X v → Y v) {h : Hp} (hb : MapI b X h) : MapI b Y h :=
  let ⟨es, c, he, hh⟩ := hb; ⟨es, c, fun e hm => ⟨(he e hm).1, hXY _ (he e hm).2⟩, hh⟩
theorem Sat.mapI {w : World} {b : Nat} {X : Value → Prop} (hw : Sat G w (MapI b X :: r)) : ∃ es clock, (∀ e ∈ es.toList, (∃ k : Int, e.key = .int .i64 k) ∧ X e.val) ∧ Sat G w (blk b (.map es clock) :: r) := by
  obtain ⟨h1, h2, hd, he, ⟨es, c, hes, hb⟩, hl⟩ := hw.mem
  exact ⟨es, c, hes, hw.os, hw.tape, hw.output, h1, h2, hd, he, hb, hl⟩
theorem Sat.toMapI {w : World} {b : Nat} {X : Value → Prop} {es : Array MapEntry} {clock : Nat} (hes : ∀ e ∈ es.toList, (∃ k : Int, e.key = .int .i64 k) ∧ X e.val) (hw : Sat G w (blk b (.map es clock) :: r)) : Sat G w (MapI b X :: r) := by
  obtain ⟨h1, h2, hd, he, hb, hl⟩ := hw.mem
  exact ⟨hw.os, hw.tape, hw.output, h1, h2, hd, he, ⟨es, clock, hes, hb⟩, hl⟩
theorem JO.lookup {t kt et : TypeId} {d : Nat} {x y : Operand} {b : Nat} {X : Value → Prop} {k : Int} {z : Value} (ht : P.underlying t = some (.map kt et)) (hk : P.underlying kt = some (.int .i64)) (hz : Zer P et z) (hx : ev n base L x = .map (some b)) (hy : ev n base L y = .int .i64 k) (q : Pick (MapI b X) As r)
    (kk : ∀ v ok, ((ok = true ∧ X v) ∨ (ok = false ∧ v = z)) → JO P G ops Q rest n base ((d, .tuple #[v, .bool ok]) :: L) D As) :
    JO P G ops Q (⟨some d, .lookup t x y true, ty, pos, aft, none⟩ :: rest) n base L D As := by
  refine ⟨fun w hw => ?_⟩
  refine wpList_plain rfl fun K hK => ?_
  show Oper.upon P _ _ _ _ _
  obtain ⟨es, c, hes, hw1⟩ := (hw.pick q).mapI
  have hb := hw1.block
  have hck : IsKey (.int .i64) (.int .i64 k) := by simp [IsKey]
  have hkeys : ∀ e ∈ es.toList, IsKey (.int .i64) e.key := fun e he => by obtain ⟨k', hk'⟩ := (hes e he).1; rw [hk']; simp [IsKey]
  have hc := fun em => run_checkKey (P := P) (w := w) hk hck em 9999
  have key : ∃ v ok, ((ok = true ∧ X v) ∨ (ok = false ∧ v = z)) ∧ (Instr.lookup t (.map (some b)) (.int .i64 k) true).run P w = .ok (.tuple #[v, .bool ok]) w := by
    rcases findNow_spec hck es.toList 0 hkeys with ⟨h1, _⟩ | ⟨j, e, h1, h2, h3⟩
    · have hf := run_findKey (P := P) (w := w) hk h1
      refine ⟨z, false, .inr ⟨rfl, rfl⟩, ?_⟩
      simp [Instr.lookup, run_underlying ht, MapKept.run_getObj_map hb, hc, hf, hz w]
    · have hf := run_findKey (P := P) (w := w) hk h1
      refine ⟨e.val, true, .inl ⟨rfl, (hes e (List.mem_of_getElem? h2)).2⟩, ?_⟩
      simp [Instr.lookup, run_underlying ht, MapKept.run_getObj_map hb, hc, hf]
  obtain ⟨v, ok, ho, hr⟩ := key
  have e : (execOp (frm n base L D).eval ⟨some d, .lookup t x y true, ty, pos, aft, none⟩).run P w = .ok (.value (.tuple #[v, .bool ok])) w := by
    rw [frm_eval]; simp [execOp, hx, hy, hr]
  rw [e]
  show K _ _
  rw [show (frm n base L D).put _ _ = _ from frm_put d _]
  exact hK _ _ ((kk v ok ho).run w hw)
theorem JO.mapup {t kt et : TypeId} {x y u : Operand} {b : Nat} {X : Value → Prop} {k : Int} {v : Value} (ht : P.underlying t = some (.map kt et)) (hk : P.underlying kt = some (.int .i64)) (hx : ev n base L x = .map (some b)) (hy : ev n base L y = .int .i64 k) (hu : ev n base L u = v) (hX : X v) (q : Pick (MapI b X) As r)
    (kk : JO P G ops Q rest n base L D (MapI b X :: r)) :
    JO P G ops Q (⟨none, .mapUpdate t x y u, ty, pos, aft, none⟩ :: rest) n base L D As := by
  refine ⟨fun w hw => ?_⟩
  refine wpList_plain rfl fun K hK => ?_
  show Oper.upon P _ _ _ _ _
  obtain ⟨es, c, hes, hw1⟩ := (hw.pick q).mapI
  have hb := hw1.block
  have hck : IsKey (.int .i64) (.int .i64 k) := by simp [IsKey]
  have hkeys : ∀ e ∈ es.toList, IsKey (.int .i64) e.key := fun e he => by obtain ⟨k', hk'⟩ := (hes e he).1; rw [hk']; simp [IsKey]
  have hc := fun em => run_checkKey (P := P) (w := w) hk hck em 9999
  have key : ∃ w', (Instr.mapUpdate t (.map (some b)) (.int .i64 k) v).run P w = .ok () w' ∧ Sat G w' (MapI b X :: r) := by
    rcases findNow_spec hck es.toList 0 hkeys with ⟨h1, _⟩ | ⟨j, e, h1, h2, h3⟩
    · have hf := run_findKey (P := P) (w := w) hk h1
      refine ⟨{ w with heap := w.heap.setIfInBounds b (.map (es.push { key := .int .i64 k, val := v, born := c }) (c + 1)) }, ?_, ?_⟩
      · simp [Instr.mapUpdate, run_underlying ht, MapKept.run_getObj_map hb, hc, hf, MapKept.run_setObj_map _ hb]
      · have hh := heap_set (o' := .map (es.push { key := .int .i64 k, val := v, born := c }) (c + 1)) hb
        refine Sat.toMapI (es := es.push { key := .int .i64 k, val := v, born := c }) (clock := c + 1) ?_ (hw1.turn rfl rfl rfl hh.2 hh.1)
        intro e he
        simp only [Array.toList_push, List.mem_append, List.mem_singleton] at he
        rcases he with he | rfl
        · exact hes e he
        · exact ⟨⟨k, rfl⟩, hX⟩
    · have hf := run_findKey (P := P) (w := w) hk h1
      have hj : es[j]? = some e := by simpa using h2
      have hsb : Instr.sameBits 10000 (.int .i64 k) (.int .i64 k) = true := by simp [Instr.sameBits]
      refine ⟨{ w with heap := w.heap.setIfInBounds b (.map (es.modify j fun e => { e with key := .int .i64 k, val := v }) c) }, ?_, ?_⟩
      · simp [Instr.mapUpdate, run_underlying ht, MapKept.run_getObj_map hb, hc, hf, MapKept.run_setObj_map _ hb, hj, h3, Instr.keyThatStays, hsb]
      · have hh := heap_set (o' := .map (es.modify j fun e => { e with key := .int .i64 k, val := v }) c) hb
        refine Sat.toMapI (clock := c) ?_ (hw1.turn rfl rfl rfl hh.2 hh.1)
        intro e' he'
        obtain ⟨i, hi⟩ := List.getElem?_of_mem he'
        rw [Array.getElem?_toList, Array.getElem?_modify] at hi
        by_cases hij : j = i
        · rw [if_pos hij] at hi
          cases hq : es[i]? with
          | none => simp [hq] at hi
          | some a => simp [hq] at hi; subst hi; exact ⟨⟨k, rfl⟩, hX⟩
        · rw [if_neg hij] at hi
          exact hes e' (List.mem_of_getElem? (by rw [Array.getElem?_toList]; exact hi))
  obtain ⟨w', hr, hw'⟩ := key
  have e : (execOp (frm n base L D).eval ⟨none, .mapUpdate t x y u, ty, pos, aft, none⟩).run P w = .ok .skip w' := by
    rw [frm_eval]; simp [execOp, hx, hy, hu, hr]
  rw [e]
  exact hK _ _ (kk.run w' hw')
end
theorem xfl {p : Prop} (h : p := by first | with_reducible exact Fl.nil | (apply Fl.one; (focus exact rfl); (focus (first | rfl | assumption | fail)); (focus (first | exact lt_ble rfl | (simp; done) | fail)); (focus exact xnorm); exact xfl) | (apply Fl.agg; (focus exact rfl); (focus (first | rfl | (simp; done) | assumption | fail)); (focus (first | exact Nat.le_of_ble_eq_true rfl | (simp; done) | fail)); (focus exact rfl); exact xfl) | fail) : p := h
end Go.Proofs.YtfpepghmbeoanaaGreatDoor
end

section
open Go Go.RowKit
namespace Go.Proofs.YtfpepghmbeoanaaGreatDoor
theorem bld119 : Bld Tryz.prog 119 [(0, 1), (1, 1)] #[Value.nilIface, Value.nilIface] := .ofS (by kernel_rfl) (by kernel_rfl)
theorem bld131 : Bld Tryz.prog 131 [(0, 1), (1, 1), (2, 1)] #[Value.slice none 0 0, Value.int IntKind.i64 0, Value.int IntKind.i8 0] := .ofS (by kernel_rfl) (by kernel_rfl)
theorem bld147 : Bld Tryz.prog 147 [(0, 1)] #[Value.int IntKind.i64 0] := .ofS (by kernel_rfl) (by kernel_rfl)
theorem bld154 : Bld Tryz.prog 154 [(0, 1), (1, 1)] #[Value.nilIface, Value.nilIface] := .ofS (by kernel_rfl) (by kernel_rfl)
theorem bld166 : Bld Tryz.prog 166 [(0, 1)] #[Value.int IntKind.i64 0] := .ofS (by kernel_rfl) (by kernel_rfl)
theorem bld173 : Bld Tryz.prog 173 [(0, 1), (1, 1), (2, 1)] #[Value.pointer none, Value.nilIface, Value.nilIface] := .ofS (by kernel_rfl) (by kernel_rfl)
theorem bld178 : Bld Tryz.prog 178 [(0, 1), (1, 3), (4, 1), (5, 1)] #[Value.nilIface, Value.slice none 0 0, Value.int IntKind.i64 0, Value.int IntKind.i8 0, Value.int IntKind.i64 0, Value.nilIface] := .ofS (by kernel_rfl) (by kernel_rfl)
theorem bld182 : Bld Tryz.prog 182 [(0, 1)] #[Value.nilIface] := .ofS (by kernel_rfl) (by kernel_rfl)
theorem bld191 : Bld Tryz.prog 191 [(0, 1), (1, 1), (2, 1), (3, 1), (4, 1), (5, 1), (6, 1)] #[Value.nilIface, Value.nilIface, Value.pointer none, Value.pointer none, Value.pointer none, Value.nilIface, Value.int IntKind.u8 0] := .ofS (by kernel_rfl) (by kernel_rfl)
theorem bld200 : Bld Tryz.prog 200 [(0, 1), (1, 5), (6, 5), (11, 1)] (Value.nilIface :: Value.int IntKind.i64 0 :: Value.int IntKind.i64 0 :: Value.int IntKind.i64 0 :: Value.int IntKind.u32 0 :: Value.int IntKind.i64 0 :: Value.int IntKind.i64 0 :: Value.int IntKind.i64 0 :: Value.int IntKind.i64 0 :: Value.int IntKind.u32 0 :: Value.int IntKind.i64 0 :: Value.pointer none :: []).toArray := .ofS (by kernel_rfl) (by kernel_rfl)
theorem bld212 : Bld Tryz.prog 212 [(0, 1)] #[Value.slice none 0 0] := .ofS (by kernel_rfl) (by kernel_rfl)
theorem bld217 : Bld Tryz.prog 217 [(0, 1)] #[Value.string ByteArray.empty] := .ofS (by kernel_rfl) (by kernel_rfl)
theorem bld219 : Bld Tryz.prog 219 [(0, 1), (1, 1), (2, 1)] #[Value.slice none 0 0, Value.int IntKind.i64 0, Value.int IntKind.i64 0] := .ofS (by kernel_rfl) (by kernel_rfl)
theorem bld223 : Bld Tryz.prog 223 [(0, 3), (3, 1)] #[Value.slice none 0 0, Value.int IntKind.i64 0, Value.int IntKind.i64 0, Value.int IntKind.i64 0] := .ofS (by kernel_rfl) (by kernel_rfl)
theorem bld230 : Bld Tryz.prog 230 [(0, 1), (1, 1), (2, 1), (3, 3)] #[Value.int IntKind.u8 0, Value.int IntKind.u32 0, Value.int IntKind.u16 0, Value.int IntKind.i64 0, Value.int IntKind.i64 0, Value.int IntKind.i64 0] := .ofS (by kernel_rfl) (by kernel_rfl)
theorem bld237 : Bld Tryz.prog 237 [(0, 1), (1, 1), (2, 1), (3, 1), (4, 1), (5, 1), (6, 1)] #[Value.pointer none, Value.pointer none, Value.pointer none, Value.int IntKind.i64 0, Value.int IntKind.i64 0, Value.bool false, Value.bool false] := .ofS (by kernel_rfl) (by kernel_rfl)
theorem bld248 : Bld Tryz.prog 248 [(0, 1), (1, 1), (2, 1)] #[Value.int IntKind.i64 0, Value.int IntKind.u32 0, Value.string ByteArray.empty] := .ofS (by kernel_rfl) (by kernel_rfl)
theorem bld258 : Bld Tryz.prog 258 [(0, 1), (1, 1)] #[Value.slice none 0 0, Value.int IntKind.u8 0] := .ofS (by kernel_rfl) (by kernel_rfl)
theorem bld26 : Bld Tryz.prog 26 [(0, 1), (1, 1), (2, 1), (3, 1), (4, 1), (5, 1)] #[Value.int IntKind.i64 0, Value.int IntKind.i64 0, Value.int IntKind.i64 0, Value.int IntKind.i64 0, Value.int IntKind.i64 0, Value.int IntKind.i64 0] := .ofS (by kernel_rfl) (by kernel_rfl)
theorem bld260 : Bld Tryz.prog 260 [(0, 2)] #[Value.slice none 0 0, Value.int IntKind.u8 0] := .ofS (by kernel_rfl) (by kernel_rfl)
theorem bld265 : Bld Tryz.prog 265 [(0, 2)] #[Value.slice none 0 0, Value.int IntKind.u8 0] := .ofS (by kernel_rfl) (by kernel_rfl)
theorem bld276 : Bld Tryz.prog 276 [(0, 1), (1, 1)] #[Value.nilIface, Value.slice none 0 0] := .ofS (by kernel_rfl) (by kernel_rfl)
theorem bld282 : Bld Tryz.prog 282 [(0, 1), (1, 1)] #[Value.nilIface, Value.int IntKind.i64 0] := .ofS (by kernel_rfl) (by kernel_rfl)
theorem bld284 : Bld Tryz.prog 284 [(0, 2), (2, 1), (3, 1), (4, 1)] #[Value.nilIface, Value.int IntKind.i64 0, Value.pointer none, Value.bool false, Value.nilIface] := .ofS (by kernel_rfl) (by kernel_rfl)
theorem bld288 : Bld Tryz.prog 288 [(0, 1), (1, 1), (2, 1)] #[Value.nilIface, Value.int IntKind.u32 0, Value.int IntKind.u32 0] := .ofS (by kernel_rfl) (by kernel_rfl)
theorem bld344 : Bld Tryz.prog 344 [(0, 1), (1, 1)] #[Value.int IntKind.i64 0, Value.int IntKind.i64 0] := .ofS (by kernel_rfl) (by kernel_rfl)
theorem bld347 : Bld Tryz.prog 347 [(0, 1)] #[Value.int IntKind.u8 0] := .ofS (by kernel_rfl) (by kernel_rfl)
theorem bld47 : Bld Tryz.prog 47 [(0, 1), (1, 1), (2, 1), (3, 1), (4, 1)] #[Value.int IntKind.u64 0, Value.int IntKind.u32 0, Value.int IntKind.u8 0, Value.int IntKind.i64 0, Value.slice none 0 0] := .ofS (by kernel_rfl) (by kernel_rfl)
theorem bld50 : Bld Tryz.prog 50 [(0, 1), (1, 1), (2, 1), (3, 1)] #[Value.slice none 0 0, Value.slice none 0 0, Value.slice none 0 0, Value.slice none 0 0] := .ofA (k := 1) (n := 4) (by kernel_rfl) (by kernel_rfl)
theorem bld51 : Bld Tryz.prog 51 ((0, 1) :: (1, 1) :: (2, 1) :: (3, 1) :: (4, 1) :: (5, 1) :: (6, 1) :: (7, 1) :: (8, 1) :: (9, 1) :: (10, 1) :: (11, 1) :: (12, 1) :: (13, 1) :: []) (Value.slice none 0 0 :: Value.slice none 0 0 :: Value.slice none 0 0 :: Value.slice none 0 0 :: Value.slice none 0 0 :: Value.slice none 0 0 :: Value.slice none 0 0 :: Value.slice none 0 0 :: Value.slice none 0 0 :: Value.slice none 0 0 :: Value.slice none 0 0 :: Value.slice none 0 0 :: Value.slice none 0 0 :: Value.slice none 0 0 :: []).toArray := .ofA (k := 1) (n := 14) (by kernel_rfl) (by kernel_rfl)
theorem bld54 : Bld Tryz.prog 54 [(0, 1), (1, 1), (2, 1), (3, 1)] #[Value.int IntKind.i64 0, Value.int IntKind.i64 0, Value.int IntKind.i64 0, Value.int IntKind.i64 0] := .ofA (k := 1) (n := 4) (by kernel_rfl) (by kernel_rfl)
theorem bld75 : Bld Tryz.prog 75 [(0, 1), (1, 16), (17, 16), (33, 1)] (Value.slice none 0 0 :: Value.slice none 0 0 :: Value.slice none 0 0 :: Value.slice none 0 0 :: Value.slice none 0 0 :: Value.slice none 0 0 :: Value.slice none 0 0 :: Value.slice none 0 0 :: Value.slice none 0 0 :: Value.slice none 0 0 :: Value.slice none 0 0 :: Value.slice none 0 0 :: Value.slice none 0 0 :: Value.slice none 0 0 :: Value.slice none 0 0 :: Value.slice none 0 0 :: Value.slice none 0 0 :: Value.slice none 0 0 :: Value.slice none 0 0 :: Value.slice none 0 0 :: Value.slice none 0 0 :: Value.slice none 0 0 :: Value.slice none 0 0 :: Value.slice none 0 0 :: Value.slice none 0 0 :: Value.slice none 0 0 :: Value.slice none 0 0 :: Value.slice none 0 0 :: Value.slice none 0 0 :: Value.slice none 0 0 :: Value.slice none 0 0 :: Value.slice none 0 0 :: Value.slice none 0 0 :: Value.slice none 0 0 :: []).toArray := .ofS (by kernel_rfl) (by kernel_rfl)
theorem bld78 : Bld Tryz.prog 78 [(0, 1), (1, 1), (2, 1), (3, 1), (4, 1), (5, 1), (6, 1), (7, 1)] #[Value.bool false, Value.bool false, Value.bool false, Value.bool false, Value.bool false, Value.bool false, Value.bool false, Value.bool false] := .ofA (k := 1) (n := 8) (by kernel_rfl) (by kernel_rfl)
theorem bld79 : Bld Tryz.prog 79 [(0, 1), (1, 1), (2, 1), (3, 1), (4, 1), (5, 1), (6, 1), (7, 1)] #[Value.int IntKind.u64 0, Value.int IntKind.u64 0, Value.int IntKind.u64 0, Value.int IntKind.u64 0, Value.int IntKind.u64 0, Value.int IntKind.u64 0, Value.int IntKind.u64 0, Value.int IntKind.u64 0] := .ofA (k := 1) (n := 8) (by kernel_rfl) (by kernel_rfl)
theorem bld88 : Bld Tryz.prog 88 [(0, 1)] #[Value.pointer none] := .ofS (by kernel_rfl) (by kernel_rfl)
theorem bld96 : Bld Tryz.prog 96 [(0, 1), (1, 1), (2, 1)] #[Value.slice none 0 0, Value.int IntKind.i64 0, Value.int IntKind.i64 0] := .ofS (by kernel_rfl) (by kernel_rfl)
theorem zer3 : Zer Tryz.prog 3 (Value.int IntKind.i64 0) := fun _ => by kernel_rfl
end Go.Proofs.YtfpepghmbeoanaaGreatDoor
end
