/-
Readers and buffers of bytes.
The decoder of bits.
The decoder: even bits, trees.
The decoder: trees of chances.
The decoder: literals.
-/
import Derived.Test.YtfpepghmbeoanaaGreatDoorQ03
import Derived.Test.YtfpepghmbeoanaaGreatDoorQ04
set_option linter.unusedSimpArgs false
set_option linter.unusedVariables false
section
open Go Go.RowKit
namespace Go.Proofs.YtfpepghmbeoanaaGreatDoor
open Lz
theorem RdOk.ext {cs : Array Value} {o m : Nat} {bs : List Nat} (hb : RdOk cs o bs) (hm : bs.length = m) (h1 : o + m ≤ cs.size) : (cs.extract o (o + m)).toList = u8s bs := by
  subst hm
  apply List.ext_getElem?
  intro i
  rw [Array.getElem?_toList, Array.getElem?_extract]
  by_cases hi : i < bs.length
  · rw [if_pos (by omega), (hb i hi).1]
    simp [u8s, hi]
  · rw [if_neg (by omega)]
    simp [u8s, hi]
theorem RdOk.lt {cs : Array Value} {o : Nat} {bs : List Nat} (hb : RdOk cs o bs) : ∀ v ∈ bs, v < 256 := by
  intro v hv
  obtain ⟨i, hi, rfl⟩ := List.getElem_of_mem hv
  have := (hb i hi).2
  simpa [List.getD_eq_getElem?_getD, hi] using this
theorem RowOf.rd {xs : List Nat} {cap : Nat} {cur : Array Value} (h : RowOf (u8s xs) cap cur) (hx : ∀ v ∈ xs, v < 256) : RdOk cur 0 xs := by
  intro i hi
  have h1 : (u8s xs)[i]? = some (vu8 (xs.getD i 0)) := by simp [u8s, hi]
  refine ⟨by rw [Nat.zero_add]; exact h.get h1, ?_⟩
  rw [List.getD_eq_getElem?_getD, List.getElem?_eq_getElem hi]
  exact hx _ (List.getElem_mem hi)
set_option maxRecDepth 100000 in
theorem clone_con (G : Gst) (b o m c : Nat) (cs : Array Value) (Tb : TypeId) (fr : Nat × Nat) (bs : List Nat) (hb : RdOk cs o bs) (hm : bs.length = m) (h1 : o + m ≤ cs.size) (h2 : m ≤ 1000000) :
    Con Tryz.prog G 15 #[.slice (some ⟨b, o, none⟩) m c] [blk b (.cells cs Tb fr)] (fun x : Value => x) (fun x => [Row 5 x (u8s bs), blk b (.cells cs Tb fr)]) := by
  refine Con.intro Tryz.func15 rfl (by kernel_rfl) Tryz.ntmps15 (Nat.le_of_ble_eq_true rfl) ?_
  intro F
  show JC _ _ _ _ _ _ [(0, _)] _ [_, _]
  refine sR ?_
  refine oC ?_
  refine nC (JC.seq (sR ?_))
  refine oM ?_
  refine JO.py (Py.to (v' := .bool false) (Py.eqlSN Tryz.underlying22 xe) rfl) ?_
  refine nC ?_
  refine cF ?_
  refine JC.skip (JX.code (sR ?_))
  refine JO.bslice Tryz.underlying22 elm5 Evs.nil rfl rfl (by simp [Value.oneCell']) (by decide) ?_; intro b5
  refine oM ?_
  refine JO.toRow (b := b5) (e := 5) (cur := #[]) (xs := u8s []) (m := 0) xpick rfl rfl (by decide) ?_
  refine JO.app Tryz.underlying22 elm5 xe xe xpick (Src.cel rfl xpick h1 (hb.ext hm h1) u8s_one) (by simp [u8s]; omega) (by decide) ?_
  intro v7 ho7
  rw [show u8s [] ++ u8s bs = u8s bs from rfl]
  refine oA ?_
  refine nC (JC.ret ?_)
  refine JX.end1 (Or.inl rfl) (v7) Tryz.results15 ((xe).trans (by first | exact xval | (dsimp only; exact xval))) xpkE
theorem newRd_con (G : Gst) (v : Value) (h : v.oneCell' = true) : Con Tryz.prog G 35 #[v] [] (fun r : Nat => .pointer (some ⟨r, 0, none⟩)) (fun r => [cel r 96 #[v, .int .i64 0, .int .i64 (-1)]]) := by
  refine Con.intro Tryz.func35 rfl (by kernel_rfl) Tryz.ntmps35 (Nat.le_of_ble_eq_true rfl) ?_
  intro F
  show JC _ _ _ _ _ _ [(0, _)] _ [_]
  refine sR ?_
  refine oC ?_
  refine nC (sR ?_)
  refine oM ?_
  refine JO.py (Py.build bld96 (Pts.cons xe (Pts.cons ev_const (Pts.cons ev_const Pts.nil))) xfl) ?_
  refine JO.boxA xe ?_; intro b5
  refine oA ?_
  refine nC (JC.ret ?_)
  refine JX.end1 (Or.inl rfl) (b5) Tryz.results35 ((xe).trans (by first | exact xval | (dsimp only; exact xval))) xpkE
/-- A reader of bytes. -/
abbrev BrA (r : Nat) (v : Value) (i : Nat) (p : Int) : Asn := cel r 96 #[v, .int .i64 (i : Int), .int .i64 p]
theorem rdByte_con (G : Gst) (r b o m c i : Nat) (p : Int) (cs : Array Value) (Tb : TypeId) (fr : Nat × Nat) (x : Nat) (hi : i < m) (hx : cs[o + i]? = some (vu8 x)) (hm : m ≤ 1000000) :
    Con Tryz.prog G 140 #[.pointer (some ⟨r, 0, none⟩)] [BrA r (.slice (some ⟨b, o, none⟩) m c) i p, blk b (.cells cs Tb fr)] (fun _ : Unit => .tuple #[vu8 x, .nilIface]) (fun _ => [BrA r (.slice (some ⟨b, o, none⟩) m c) (i + 1) (-1), blk b (.cells cs Tb fr)]) := by
  refine Con.intro Tryz.func140 rfl (by kernel_rfl) Tryz.ntmps140 (Nat.le_of_ble_eq_true rfl) ?_
  intro F
  show JC _ _ _ _ _ _ [(0, _)] _ [_, _, _]
  refine sR ?_
  refine oC ?_
  refine oC ?_
  refine nC (sR ?_)
  refine oM ?_
  refine JO.py (Py.nil xe) ?_
  refine JO.py (Py.fld fld96_2 xe xoff) ?_
  refine JO.store siz3 xe ev_const (by first | rfl | assumption) xpick xsize xnorm ?_
  refine nC (JC.seq (JC.seq ?_))
  refine JC.regionD mixed (by kernel_rfl) ?_
  refine JD.py (Py.move xe) ?_
  refine JD.py (Py.nil xe) ?_
  refine JD.py (Py.fld fld96_1 xe xoff) ?_
  refine JD.py (Py.load scal2 xe xpick xrow) ?_
  refine JD.py (Py.move xe) ?_
  refine JD.py (Py.nil xe) ?_
  refine JD.py (Py.fld fld96_0 xe xoff) ?_
  refine JD.py (Py.load scal22 xe xpick xrow) ?_
  refine JD.py (Py.lenS Tryz.underlying22 xe) ?_
  first | refine JD.py (Py.dec (Py.geq xe xe) (by omega)) ?_ | refine JD.py (Py.undec (Py.geq xe xe) (by omega)) ?_ | refine JD.py (Py.geq xe xe) ?_
  refine JD.nilN (JX.code ?_)
  refine cF ?_
  refine JC.skip (JX.code (JC.seq ?_))
  refine JC.regionD mixed (by kernel_rfl) ?_
  refine JD.py (Py.move xe) ?_
  refine JD.py (Py.nil xe) ?_
  refine JD.py (Py.fld fld96_0 xe xoff) ?_
  refine JD.py (Py.load scal22 xe xpick xrow) ?_
  refine JD.py (Py.move xe) ?_
  refine JD.py (Py.nil xe) ?_
  refine JD.py (Py.fld fld96_1 xe xoff) ?_
  refine JD.py (Py.load scal2 xe xpick xrow) ?_
  refine JD.py (Py.idxS Tryz.underlying22 siz5 xe xe (by omega) xidx xmult) ?_
  refine JD.py (Py.load scal5 xe xpick xrow) ?_
  refine JD.py (Py.assign xe) ?_
  refine JD.nilN (JX.code (sR ?_))
  refine oM ?_
  refine JO.py (Py.nil xe) ?_
  refine JO.py (Py.fld fld96_1 xe xoff) ?_
  refine JO.py (Py.load scal2 xe xpick xrow) ?_
  refine JO.py (Py.add xe ev_const wI) ?_
  refine JO.py (Py.nil xe) ?_
  refine JO.py (Py.fld fld96_1 xe xoff) ?_
  refine JO.store siz2 xe xe (by first | rfl | assumption) xpick xsize xnorm ?_
  refine nC (sR ?_)
  refine oM ?_
  refine oA ?_
  refine oC ?_
  refine nC (JC.ret ?_)
  refine JX.end2 (Or.inl rfl) (()) Tryz.results140 (tup2 ((xe).trans (by first | exact xval | (dsimp only; exact xval))) ((xe).trans (by first | exact xval | (dsimp only; exact xval)))) xpkE
/-- A buffer's cells. -/
abbrev BufA (bf : Nat) (v : Value) (off : Nat) (lr : Int) : Asn := cel bf 131 #[v, .int .i64 (off : Int), .int .i8 lr]
theorem newBuf2_con (G : Gst) (v : Value) (h : v.oneCell' = true) : Con Tryz.prog G 49 #[v] [] (fun r : Nat => .pointer (some ⟨r, 0, none⟩)) (fun r => [BufA r v 0 0]) := by
  refine Con.intro Tryz.func49 rfl (by kernel_rfl) Tryz.ntmps49 (Nat.le_of_ble_eq_true rfl) ?_
  intro F
  show JC _ _ _ _ _ _ [(0, _)] _ [_]
  refine sR ?_
  refine oC ?_
  refine nC (sR ?_)
  refine oM ?_
  refine JO.py (Py.build bld131 (Pts.cons xe Pts.nil) xfl) ?_
  refine JO.boxA xe ?_; intro b5
  refine oA ?_
  refine nC (JC.ret ?_)
  refine JX.end1 (Or.inl rfl) (b5) Tryz.results49 ((xe).trans (by first | exact xval | (dsimp only; exact xval))) xpkE
theorem bufLen_con (G : Gst) (bf : Nat) (a : Option Addr) (l c off : Nat) (lr : Int) (h : off ≤ l) (hl : l ≤ 1000000) : Con Tryz.prog G 75 #[.pointer (some ⟨bf, 0, none⟩)] [BufA bf (.slice a l c) off lr] (fun _ : Unit => .int .i64 ((l - off : Nat) : Int)) (fun _ => [BufA bf (.slice a l c) off lr]) := by
  refine Con.intro Tryz.func75 rfl (by kernel_rfl) Tryz.ntmps75 (Nat.le_of_ble_eq_true rfl) ?_
  intro F
  show JC _ _ _ _ _ _ [(0, _)] _ [_, _]
  refine sR ?_
  refine oC ?_
  refine nC (JC.seq ?_)
  refine JC.regionD mixed (by kernel_rfl) ?_
  refine JD.py (Py.move xe) ?_
  refine JD.py (Py.nil xe) ?_
  refine JD.py (Py.fld fld131_0 xe xoff) ?_
  refine JD.py (Py.load scal22 xe xpick xrow) ?_
  refine JD.py (Py.lenS Tryz.underlying22 xe) ?_
  refine JD.py (Py.move xe) ?_
  refine JD.py (Py.nil xe) ?_
  refine JD.py (Py.fld fld131_1 xe xoff) ?_
  refine JD.py (Py.load scal3 xe xpick xrow) ?_
  refine JD.py (Py.sub xe xe wI) ?_
  refine JD.py (Py.assign xe) ?_
  refine JD.nilN (JX.code (JC.ret ?_))
  refine JX.end1 (Or.inl rfl) (()) Tryz.results75 ((xe).trans (by first | exact xval | (dsimp only; exact xval))) xpkE
theorem tryGrowT_con (G : Gst) (bf b l c : Nat) (lr : Int) (h : l < c) (hc : c < 9223372036854775808) (hl : l ≤ 1000000) : Con Tryz.prog G 68 #[.pointer (some ⟨bf, 0, none⟩), .int .i64 1] [BufA bf (.slice (some ⟨b, 0, none⟩) l c) 0 lr] (fun _ : Unit => .tuple #[.int .i64 (l : Int), .bool true]) (fun _ => [BufA bf (.slice (some ⟨b, 0, none⟩) (l + 1) c) 0 lr]) := by
  refine Con.intro Tryz.func68 rfl (by kernel_rfl) Tryz.ntmps68 (Nat.le_of_ble_eq_true rfl) ?_
  intro F
  show JC _ _ _ _ _ _ [(0, _), (1, _)] _ [_, _]
  refine sR ?_
  refine oC ?_
  refine oC ?_
  refine nC (JC.seq (sR ?_))
  refine oM ?_
  refine JO.py (Py.nil xe) ?_
  refine JO.py (Py.fld fld131_0 xe xoff) ?_
  refine JO.py (Py.load scal22 xe xpick xrow) ?_
  refine JO.py (Py.lenS Tryz.underlying22 xe) ?_
  refine oA ?_
  refine nC (sR ?_)
  refine oM ?_
  refine oM ?_
  refine JO.py (Py.nil xe) ?_
  refine JO.py (Py.fld fld131_0 xe xoff) ?_
  refine JO.py (Py.load scal22 xe xpick xrow) ?_
  refine JO.py (Py.capS Tryz.underlying22 xe) ?_
  refine oM ?_
  refine JO.py (Py.sub xe xe wI) ?_
  first | refine oD (Py.leq xe xe) ?_ | refine oU (Py.leq xe xe) ?_ | refine JO.py (Py.leq xe xe) ?_
  refine nC ?_
  refine cT ?_
  refine sR ?_
  refine oM ?_
  refine oM ?_
  refine JO.py (Py.nil xe) ?_
  refine JO.py (Py.fld fld131_0 xe xoff) ?_
  refine JO.py (Py.load scal22 xe xpick xrow) ?_
  refine oM ?_
  refine oM ?_
  refine JO.py (Py.add xe xe wI) ?_
  refine JO.py (Py.slc (l := 0) (h := l + 1) (p := 0) (q := l + 1) (c := c) Tryz.underlying22 siz5 xe Bd.none (Bd.some xe (by omega)) (by omega) (by omega) (by omega) (by omega) (by omega) (by omega)) ?_
  refine JO.py (Py.nil xe) ?_
  refine JO.py (Py.fld fld131_0 xe xoff) ?_
  refine JO.store siz22 xe xe (by first | rfl | assumption) xpick xsize xnorm ?_
  refine nC (sR ?_)
  refine oM ?_
  refine oA ?_
  refine oC ?_
  refine nC (JC.ret (JX.ret ?_))
  refine JX.end2 (Or.inl rfl) (()) Tryz.results68 (tup2 ((xe).trans (by first | exact xval | (dsimp only; exact xval))) ((xe).trans (by first | exact xval | (dsimp only; exact xval)))) xpkE
theorem tryGrowF_con (G : Gst) (bf b l : Nat) (lr : Int) (hl : l ≤ 1000000) : Con Tryz.prog G 68 #[.pointer (some ⟨bf, 0, none⟩), .int .i64 1] [BufA bf (.slice (some ⟨b, 0, none⟩) l l) 0 lr] (fun _ : Unit => .tuple #[.int .i64 0, .bool false]) (fun _ => [BufA bf (.slice (some ⟨b, 0, none⟩) l l) 0 lr]) := by
  refine Con.intro Tryz.func68 rfl (by kernel_rfl) Tryz.ntmps68 (Nat.le_of_ble_eq_true rfl) ?_
  intro F
  show JC _ _ _ _ _ _ [(0, _), (1, _)] _ [_, _]
  refine sR ?_
  refine oC ?_
  refine oC ?_
  refine nC (JC.seq (sR ?_))
  refine oM ?_
  refine JO.py (Py.nil xe) ?_
  refine JO.py (Py.fld fld131_0 xe xoff) ?_
  refine JO.py (Py.load scal22 xe xpick xrow) ?_
  refine JO.py (Py.lenS Tryz.underlying22 xe) ?_
  refine oA ?_
  refine nC (sR ?_)
  refine oM ?_
  refine oM ?_
  refine JO.py (Py.nil xe) ?_
  refine JO.py (Py.fld fld131_0 xe xoff) ?_
  refine JO.py (Py.load scal22 xe xpick xrow) ?_
  refine JO.py (Py.capS Tryz.underlying22 xe) ?_
  refine oM ?_
  refine JO.py (Py.sub xe xe wI) ?_
  first | refine oD (Py.leq xe xe) ?_ | refine oU (Py.leq xe xe) ?_ | refine JO.py (Py.leq xe xe) ?_
  refine nC ?_
  refine cF ?_
  refine JC.skip (JX.code (sR ?_))
  refine oC ?_
  refine oC ?_
  refine nC (JC.ret ?_)
  refine JX.end2 (Or.inl rfl) (()) Tryz.results68 (tup2 ((xe).trans (by first | exact xval | (dsimp only; exact xval))) ((xe).trans (by first | exact xval | (dsimp only; exact xval)))) xpkE
theorem grown_row {xs : List Value} {cap l : Nat} (hl : xs.length = l) (hc : l < cap) (hcap : cap < 9223372036854775808) : RowOf xs cap ((Array.replicate cap (Value.int .u8 0)).toList.take 0 ++ xs ++ (Array.replicate cap (Value.int .u8 0)).toList.drop (0 + l)).toArray := by
  subst hl
  exact ⟨by omega, hcap, by simp; omega, by simp⟩
set_option maxRecDepth 100000 in
theorem growSlice_con (G : Gst) (b l : Nat) (cur : Array Value) (xs : List Value) (hr : RowOf xs l cur) (hl : xs.length = l) (h1 : 1 ≤ l) (h2 : l ≤ 1000000) (hone : ∀ v ∈ xs, v.oneCell' = true) :
    Con Tryz.prog G 77 #[.slice (some ⟨b, 0, none⟩) l l, .int .i64 1] [cel b 5 cur] (fun x : {x : Nat × Nat × Array Value // RowOf xs x.2.1 x.2.2 ∧ l < x.2.1} => .slice (some ⟨x.1.1, 0, none⟩) l x.1.2.1) (fun x => [cel x.1.1 5 x.1.2.2, cel b 5 cur]) := by
  have hrd : ∀ j v, xs[j]? = some v → cur[0 + j]? = some v := fun j v h => by rw [Nat.zero_add]; exact hr.get h
  refine Con.introD Tryz.func77 rfl (by kernel_rfl) Tryz.ntmps77 (Nat.le_of_ble_eq_true rfl) ?_
  intro F
  show JC _ _ _ _ _ _ [(0, _), (1, _)] _ [_, _]
  refine sR ?_
  refine oC ?_
  refine nC (sR ?_)
  refine JO.dfr ?_
  refine nC (sR ?_)
  refine oM ?_
  refine JO.py (Py.lenS Tryz.underlying22 xe) ?_
  refine oM ?_
  refine JO.py (Py.add xe xe wI) ?_
  refine oA ?_
  refine nC (JC.seq (sR ?_))
  refine oM ?_
  refine oM ?_
  refine JO.py (Py.capS Tryz.underlying22 xe) ?_
  refine JO.py (Py.mul ev_const xe wI) ?_
  first | refine oD (Py.lss xe xe) ?_ | refine oU (Py.lss xe xe) ?_ | refine JO.py (Py.lss xe xe) ?_
  refine nC ?_
  by_cases hw : l + 1 < 2 * l
  · skip
    refine cT ?_
    refine JC.region ?_
    refine oM ?_
    refine JO.py (Py.capS Tryz.underlying22 xe) ?_
    refine JO.py (Py.mul ev_const xe wI) ?_
    refine oA ?_
    refine nC (sR ?_)
    refine oM ?_
    refine JO.appZ (m := 2 * l) Tryz.underlying22 Tryz.underlying3 elm5 ev_const xe (by omega) (by omega) (by omega) (by omega) ?_
    intro b21 c21 hc21 hd21
    refine oA ?_
    refine nC (sR ?_)
    refine oM ?_
    refine oM ?_
    refine JO.copy (news := xs) (cs' := ((Array.replicate c21 (Value.int .u8 0)).toList.take 0 ++ xs ++ (Array.replicate c21 (Value.int .u8 0)).toList.drop (0 + l)).toArray) Tryz.underlying22 info5 xe xe (hl) (by omega) xpick (Reads.cel (o := 0) xpick hrd) (by simp; omega) (hone) (rfl) ?_
    refine oA ?_
    refine nC (sR ?_)
    refine oM ?_
    refine oM ?_
    refine JO.py (Py.slc (l := 0) (h := l) (p := 0) (q := l) (c := c21) Tryz.underlying22 siz5 xe Bd.none (Bd.some xe (by omega)) (by omega) (by omega) (by omega) (by omega) (by omega) (by omega)) ?_
    refine oA ?_
    refine nC (JC.ret ?_)
    refine JX.endD1 (Or.inl rfl) (⟨(b21, c21, _), grown_row hl (by omega) hd21, show l < c21 by omega⟩) Tryz.results77 ((xe).trans (by first | exact xval | (dsimp only; exact xval))) ((fun w => by kernel_rfl)) (catch_idle) xpkE
  · skip
    refine cF ?_
    refine JC.skip (JX.code (sR ?_))
    refine oM ?_
    refine JO.appZ (m := l + 1) Tryz.underlying22 Tryz.underlying3 elm5 ev_const xe (by omega) (by omega) (by omega) (by omega) ?_
    intro b21 c21 hc21 hd21
    refine oA ?_
    refine nC (sR ?_)
    refine oM ?_
    refine oM ?_
    refine JO.copy (news := xs) (cs' := ((Array.replicate c21 (Value.int .u8 0)).toList.take 0 ++ xs ++ (Array.replicate c21 (Value.int .u8 0)).toList.drop (0 + l)).toArray) Tryz.underlying22 info5 xe xe (hl) (by omega) xpick (Reads.cel (o := 0) xpick hrd) (by simp; omega) (hone) (rfl) ?_
    refine oA ?_
    refine nC (sR ?_)
    refine oM ?_
    refine oM ?_
    refine JO.py (Py.slc (l := 0) (h := l) (p := 0) (q := l) (c := c21) Tryz.underlying22 siz5 xe Bd.none (Bd.some xe (by omega)) (by omega) (by omega) (by omega) (by omega) (by omega) (by omega)) ?_
    refine oA ?_
    refine nC (JC.ret ?_)
    refine JX.endD1 (Or.inl rfl) (⟨(b21, c21, _), grown_row hl (by omega) hd21, show l < c21 by omega⟩) Tryz.results77 ((xe).trans (by first | exact xval | (dsimp only; exact xval))) ((fun w => by kernel_rfl)) (catch_idle) xpkE
set_option maxRecDepth 100000 in
theorem grow_con (G : Gst) (bf b l : Nat) (lr : Int) (cur : Array Value) (xs : List Value) (hr : RowOf xs l cur) (hl : xs.length = l) (h1 : 1 ≤ l) (h2 : l ≤ 1000000) (hone : ∀ v ∈ xs, v.oneCell' = true) :
    Con Tryz.prog G 62 #[.pointer (some ⟨bf, 0, none⟩), .int .i64 1] [BufA bf (.slice (some ⟨b, 0, none⟩) l l) 0 lr, cel b 5 cur] (fun x : {x : Nat × Nat × Array Value // RowOf xs x.2.1 x.2.2 ∧ l < x.2.1} => .int .i64 (l : Int)) (fun x => [BufA bf (.slice (some ⟨x.1.1, 0, none⟩) (l + 1) x.1.2.1) 0 lr, cel x.1.1 5 x.1.2.2]) := by
  refine Con.intro Tryz.func62 rfl (by kernel_rfl) Tryz.ntmps62 (Nat.le_of_ble_eq_true rfl) ?_
  intro F
  show JC _ _ _ _ _ _ [(0, _), (1, _)] _ [_, _, _]
  refine sR ?_
  refine oC ?_
  refine nC (sR ?_)
  refine oM ?_
  refine JO.call (Evs.cons xe Evs.nil) (bufLen_con G bf (some ⟨b, 0, none⟩) l l 0 lr (Nat.zero_le _) h2) xpkE ?_
  rintro _
  show JO _ _ _ _ _ _ _ ((10, _) :: _) _ (_ :: _ :: _)
  rw [Nat.sub_zero]
  refine oA ?_
  refine nC (JC.seq (sR ?_))
  refine oM ?_
  first | refine oD (Py.eql xe ev_const) ?_ | refine oU (Py.eql xe ev_const) ?_ | refine JO.py (Py.eql xe ev_const) ?_
  refine oM ?_
  first | (refine gT ?_; (refine oM ?_)) | refine kF ?_
  first | (refine gT ?_; (refine JO.py (Py.nil xe) ?_)) | refine kF ?_
  first | (refine gT ?_; (refine JO.py (Py.fld fld131_1 xe xoff) ?_)) | refine kF ?_
  first | (refine gT ?_; (refine JO.py (Py.load scal3 xe xpick xrow) ?_)) | refine kF ?_
  first | (refine gT ?_; (first | refine oD (Py.neq xe ev_const) ?_ | refine oU (Py.neq xe ev_const) ?_ | refine JO.py (Py.neq xe ev_const) ?_)) | refine kF ?_
  first | refine JO.py (Py.pickT xe xe) ?_ | refine JO.py (Py.pickF xe ev_const) ?_
  refine nC ?_
  refine cF ?_
  refine JC.skip (JX.code (JC.seq (sR ?_)))
  refine oM ?_
  refine oM ?_
  refine JO.call (Evs.cons xe (Evs.cons xe Evs.nil)) (tryGrowF_con G bf b l lr h2) xpkE ?_
  rintro _
  show JO _ _ _ _ _ _ _ ((25, _) :: _) _ (_ :: _ :: _)
  refine oM ?_
  refine JO.py (Py.extrI xe xix) ?_
  refine JO.py (Py.extrI xe xix) ?_
  refine oA ?_
  refine oA ?_
  refine nC (sR ?_)
  refine oM ?_
  refine nC ?_
  refine cF ?_
  refine JC.skip (JX.code (JC.seq (sR ?_)))
  refine oM ?_
  refine JO.py (Py.nil xe) ?_
  refine JO.py (Py.fld fld131_0 xe xoff) ?_
  refine JO.py (Py.load scal22 xe xpick xrow) ?_
  refine JO.py (Py.to (v' := .bool false) (Py.eqlSN Tryz.underlying22 xe) rfl) ?_
  refine oM ?_
  first | (refine gT ?_; (refine oM ?_)) | refine kF ?_
  first | (refine gT ?_; (first | refine oD (Py.leq xe ev_const) ?_ | refine oU (Py.leq xe ev_const) ?_ | refine JO.py (Py.leq xe ev_const) ?_)) | refine kF ?_
  first | refine JO.py (Py.pickT xe xe) ?_ | refine JO.py (Py.pickF xe ev_const) ?_
  refine nC ?_
  refine cF ?_
  refine JC.skip (JX.code (sR ?_))
  refine oM ?_
  refine JO.py (Py.nil xe) ?_
  refine JO.py (Py.fld fld131_0 xe xoff) ?_
  refine JO.py (Py.load scal22 xe xpick xrow) ?_
  refine JO.py (Py.capS Tryz.underlying22 xe) ?_
  refine oA ?_
  refine nC (JC.seq (sR ?_))
  refine oM ?_
  refine oM ?_
  refine JO.py (Py.quo xe ev_const (by omega) (by omega) wI) ?_
  refine oM ?_
  refine JO.py (Py.sub xe xe wI) ?_
  first | refine oD (Py.leq xe xe) ?_ | refine oU (Py.leq xe xe) ?_ | refine JO.py (Py.leq xe xe) ?_
  refine nC ?_
  refine cF ?_
  refine sR ?_
  refine oM ?_
  refine oM ?_
  refine JO.py (Py.sub ev_const xe wI) ?_
  refine oM ?_
  refine JO.py (Py.sub xe xe wI) ?_
  first | refine oD (Py.gtr xe xe) ?_ | refine oU (Py.gtr xe xe) ?_ | refine JO.py (Py.gtr xe xe) ?_
  refine nC ?_
  refine cF ?_
  refine JC.regionM [(0, true), (1, true), (2, true), (3, true), (4, true), (5, true), (6, true), (7, true), (8, true), (9, true), (10, true), (11, true), (12, true), (13, true), (14, true), (15, true), (16, false), (17, true), (18, true), (19, false)] mixed (by kernel_rfl) ?_
  refine JM.py ao ⟨fun _ => Py.move xe⟩ ?_
  refine JM.py ao ⟨fun _ => Py.move xe⟩ ?_
  refine JM.py ao ⟨fun _ => Py.nil xe⟩ ?_
  refine JM.py ao ⟨fun _ => Py.fld fld131_0 xe xoff⟩ ?_
  refine JM.ld ao scal22 xe xpick xrow ?_
  refine JM.py ao ⟨fun _ => Py.move xe⟩ ?_
  refine JM.py ao ⟨fun _ => Py.nil xe⟩ ?_
  refine JM.py ao ⟨fun _ => Py.fld fld131_1 xe xoff⟩ ?_
  refine JM.ld ao scal3 xe xpick xrow ?_
  refine JM.py ao ⟨fun _ => Py.slc (l := 0) (h := l) (p := 0) (q := l) (c := l) Tryz.underlying22 siz5 xe (Bd.some xe (by omega)) Bd.none (by omega) (by omega) (by omega) (by omega) (by omega) (by omega)⟩ ?_
  refine JM.py ao ⟨fun _ => Py.move xe⟩ ?_
  refine JM.py ao ⟨fun _ => Py.nil xe⟩ ?_
  refine JM.py ao ⟨fun _ => Py.fld fld131_1 xe xoff⟩ ?_
  refine JM.ld ao scal3 xe xpick xrow ?_
  refine JM.py ao ⟨fun _ => Py.move xe⟩ ?_
  refine JM.py ao ⟨fun _ => Py.add (c := 1) xe xe rfl⟩ ?_
  refine JM.eff ao ?_
  refine JO.call (Evs.cons xe (Evs.cons xe Evs.nil)) (growSlice_con G b l cur xs hr hl h1 h2 hone) xpkE ?_
  rintro ⟨⟨nb, nc, nr⟩, hnr, hnc⟩
  show JO _ _ _ _ _ _ _ ((92, _) :: _) _ (_ :: _ :: _ :: _)
  dsimp only at hnr hnc ⊢
  refine JO.nil ?_
  refine JX.mix (Kept.drop (Forced.trans (q := 15) (Forced.step (by kernel_rfl)) (Forced.step (by kernel_rfl))) (Kept.drop (Forced.trans (q := 9) (Forced.step (by kernel_rfl)) (Forced.step (by kernel_rfl))) (Kept.drop (Forced.trans (q := 9) (Forced.step (by kernel_rfl)) (Forced.step (by kernel_rfl))) Kept.nil))) ?_
  refine JM.py ao ⟨fun _ => Py.nil xe⟩ ?_
  refine JM.py ao ⟨fun _ => Py.fld fld131_0 xe xoff⟩ ?_
  refine JM.eff ao ?_
  refine JO.store siz22 xe xe (by first | rfl | assumption) xpick xsize xnorm ?_
  refine JO.nil ?_
  refine JX.mix Kept.nil ?_
  refine JM.nil (JX.code (sR ?_))
  refine oM ?_
  refine JO.py (Py.nil xe) ?_
  refine JO.py (Py.fld fld131_1 xe xoff) ?_
  refine JO.store siz3 xe ev_const (by first | rfl | assumption) xpick xsize xnorm ?_
  refine nC (sR ?_)
  refine oM ?_
  refine oM ?_
  refine JO.py (Py.nil xe) ?_
  refine JO.py (Py.fld fld131_0 xe xoff) ?_
  refine JO.py (Py.load scal22 xe xpick xrow) ?_
  refine oM ?_
  refine oM ?_
  refine JO.py (Py.add xe xe wI) ?_
  refine JO.py (Py.slc (l := 0) (h := l + 1) (p := 0) (q := l + 1) (c := nc) Tryz.underlying22 siz5 xe Bd.none (Bd.some xe (by omega)) (by omega) (by omega) (by omega) (by omega) (by omega) (by omega)) ?_
  refine JO.py (Py.nil xe) ?_
  refine JO.py (Py.fld fld131_0 xe xoff) ?_
  refine JO.store siz22 xe xe (by first | rfl | assumption) xpick xsize xnorm ?_
  refine nC (sR ?_)
  refine oM ?_
  refine oA ?_
  refine nC (JC.ret ?_)
  refine JX.end1 (Or.inl rfl) (⟨(nb, nc, nr), hnr, hnc⟩) Tryz.results62 ((xe).trans (by first | exact xval | (dsimp only; exact xval))) xpkE
/-- A buffer that holds these bytes, none of them read. -/
def BufR (bf : Nat) (xs : List Nat) : Asn := Ex fun v : Value × Int => [BufA bf v.1 0 v.2, Row 5 v.1 (u8s xs)]
set_option maxRecDepth 100000 in
theorem writeByte_con (G : Gst) (bf : Nat) (xs : List Nat) (x : Nat) (h1 : 1 ≤ xs.length) (h2 : xs.length ≤ 1000000) :
    Con Tryz.prog G 59 #[.pointer (some ⟨bf, 0, none⟩), vu8 x] [BufR bf xs] (fun _ : Unit => .nilIface) (fun _ => [BufR bf (xs ++ [x])]) := by
  obtain ⟨l, hxl⟩ : ∃ l, xs.length = l := ⟨_, rfl⟩
  have hul : (u8s xs).length = l := by rw [u8s_len, hxl]
  rw [hxl] at h1 h2
  refine Con.intro Tryz.func59 rfl (by kernel_rfl) Tryz.ntmps59 (Nat.le_of_ble_eq_true rfl) ?_
  intro F
  show JC _ _ _ _ _ _ [(0, _), (1, _)] _ [_, _]
  refine JC.as (A := BufR bf xs) (A' := Ex fun v : Value × Int => [BufA bf v.1 0 v.2, Row 5 v.1 (u8s xs)]) xpick (rfl) ?_
  refine JC.open xpick ?_
  rintro ⟨v, lr⟩
  show JC _ _ _ _ _ _ _ _ (_ :: _ :: _ :: _)
  dsimp only
  refine JC.unrow (e := 5) (v := v) (xs := u8s xs) xpick (by intro h; rw [h] at hul; simp at hul; omega) ?_
  rintro b cap cur rfl hr
  rw [hul]
  have hle := hr.le
  have hlt := hr.lt
  rw [hul] at hle
  refine sR ?_
  refine oC ?_
  refine nC (sR ?_)
  refine oM ?_
  refine JO.py (Py.nil xe) ?_
  refine JO.py (Py.fld fld131_2 xe xoff) ?_
  refine JO.store siz129 xe ev_const (by first | rfl | assumption) xpick xsize xnorm ?_
  refine nC (sR ?_)
  refine oM ?_
  by_cases hc : l < cap
  · skip
    refine JO.call (Evs.cons xe (Evs.cons ev_const Evs.nil)) (tryGrowT_con G bf b l cap 0 hc hlt h2) xpkE ?_
    rintro _
    show JO _ _ _ _ _ _ _ ((12, _) :: _) _ (_ :: _ :: _ :: _)
    refine oM ?_
    refine JO.py (Py.extrI xe xix) ?_
    refine JO.py (Py.extrI xe xix) ?_
    refine oA ?_
    refine oA ?_
    refine nC (JC.seq (sR ?_))
    refine oM ?_
    refine JO.py (Py.not xe (by first | with_reducible exact not_t | with_reducible exact not_f | exact rfl)) ?_
    refine nC ?_
    refine cF ?_
    have hsz : l < cur.size := by rw [hr.size]; exact hc
    refine JC.skip (JX.code (sR ?_))
    refine oM ?_
    refine JO.py (Py.nil xe) ?_
    refine JO.py (Py.fld fld131_0 xe xoff) ?_
    refine JO.py (Py.load scal22 xe xpick xrow) ?_
    refine oM ?_
    refine oM ?_
    refine JO.py (Py.idxS Tryz.underlying22 siz5 xe xe (by omega) xidx xmult) ?_
    refine JO.store siz5 xe xe (by first | rfl | assumption) xpick xsize xnorm ?_
    refine nC (sR ?_)
    refine oC ?_
    refine nC (JC.ret ?_)
    have hn := hr.set_end (v := vu8 x) hul hc
    refine JX.torow (b := b) (e := 5) (m := l + 1) (cap := cap) (xs := u8s (xs ++ [x])) xpick (by rw [u8s_append]; exact hn) (by rw [u8s_len]; simp [hxl]) ?_
    refine JX.shut (f := fun v : Value × Int => [BufA bf v.1 0 v.2, Row 5 v.1 (u8s (xs ++ [x]))]) (Value.slice (some ⟨b, 0, none⟩) (l + 1) cap, 0) xpicks ?_
    refine JX.as (A := Ex fun v : Value × Int => [BufA bf v.1 0 v.2, Row 5 v.1 (u8s (xs ++ [x]))]) (A' := BufR bf (xs ++ [x])) xpick (rfl) ?_
    refine JX.end1 (Or.inl rfl) (()) Tryz.results59 ((xe).trans (by first | exact xval | (dsimp only; exact xval))) xpkE
  · skip
    obtain rfl : cap = l := by omega
    refine JO.call (Evs.cons xe (Evs.cons ev_const Evs.nil)) (tryGrowF_con G bf b cap 0 h2) xpkE ?_
    rintro _
    show JO _ _ _ _ _ _ _ ((12, _) :: _) _ (_ :: _ :: _ :: _)
    refine oM ?_
    refine JO.py (Py.extrI xe xix) ?_
    refine JO.py (Py.extrI xe xix) ?_
    refine oA ?_
    refine oA ?_
    refine nC (JC.seq (sR ?_))
    refine oM ?_
    refine JO.py (Py.not xe (by first | with_reducible exact not_t | with_reducible exact not_f | exact rfl)) ?_
    refine nC ?_
    refine cT ?_
    refine JC.region ?_
    refine oM ?_
    refine JO.call (Evs.cons xe (Evs.cons ev_const Evs.nil)) (grow_con G bf b cap 0 cur (u8s xs) hr hul h1 h2 u8s_one) xpkE ?_
    rintro ⟨⟨nb, nc, nr⟩, hnr, hnc⟩
    show JO _ _ _ _ _ _ _ ((18, _) :: _) _ (_ :: _ :: _ :: _)
    dsimp only at hnr hnc ⊢
    have hsz : cap < nr.size := by rw [hnr.size]; exact hnc
    refine oA ?_
    refine nC (sR ?_)
    refine oM ?_
    refine JO.py (Py.nil xe) ?_
    refine JO.py (Py.fld fld131_0 xe xoff) ?_
    refine JO.py (Py.load scal22 xe xpick xrow) ?_
    refine oM ?_
    refine oM ?_
    refine JO.py (Py.idxS Tryz.underlying22 siz5 xe xe (by omega) xidx xmult) ?_
    refine JO.store siz5 xe xe (by first | rfl | assumption) xpick xsize xnorm ?_
    refine nC (sR ?_)
    refine oC ?_
    refine nC (JC.ret ?_)
    have hn := hnr.set_end (v := vu8 x) hul hnc
    refine JX.torow (b := nb) (e := 5) (m := cap + 1) (cap := nc) (xs := u8s (xs ++ [x])) xpick (by rw [u8s_append]; exact hn) (by rw [u8s_len]; simp [hxl]) ?_
    refine JX.shut (f := fun v : Value × Int => [BufA bf v.1 0 v.2, Row 5 v.1 (u8s (xs ++ [x]))]) (Value.slice (some ⟨nb, 0, none⟩) (cap + 1) nc, 0) xpicks ?_
    refine JX.as (A := Ex fun v : Value × Int => [BufA bf v.1 0 v.2, Row 5 v.1 (u8s (xs ++ [x]))]) (A' := BufR bf (xs ++ [x])) xpick (rfl) ?_
    refine JX.end1 (Or.inl rfl) (()) Tryz.results59 ((xe).trans (by first | exact xval | (dsimp only; exact xval))) xpkE
theorem leN_lt (v n : Nat) : ∀ x ∈ leN v n, x < 256 := by
  intro x hx
  simp only [leN, List.mem_map] at hx
  obtain ⟨i, _, rfl⟩ := hx
  omega
set_option maxRecDepth 100000 in
theorem writeU64_con (G : Gst) (bf : Nat) (xs : List Nat) (v : Nat) (hv : v < 18446744073709551616) (h1 : 1 ≤ xs.length) (h2 : xs.length ≤ 1000) :
    Con Tryz.prog G 50 #[.pointer (some ⟨bf, 0, none⟩), .int .u64 (v : Int)] [BufR bf xs] (fun _ : Unit => .tuple #[]) (fun _ => [BufR bf (xs ++ leN v 8)]) := by
  refine Con.intro Tryz.func50 rfl (by kernel_rfl) Tryz.ntmps50 (Nat.le_of_ble_eq_true rfl) ?_
  intro F
  show JC _ _ _ _ _ _ [(0, _), (1, _)] _ [_, _]
  refine sR ?_
  refine oC ?_
  refine nC (JC.block ?_)
  refine JC.loop (ι := Nat) (fun i => i ≤ 8) (fun i => [(0, .pointer (some ⟨bf, 0, none⟩)), (1, .int .u64 (v : Int)), (4, .int .i64 (i : Int))]) (fun i => [BufR bf (xs ++ leN v i), F]) (fun i => 8 - i) 0 (Nat.zero_le _) xag (by rw [show xs ++ leN v 0 = xs by simp [leN]]; exact xpkE) ?_
  rintro i base' hi
  have hln := leN_len v i
  by_cases h : i < 8
  · skip
    refine JC.seq (sR ?_)
    refine oM ?_
    first | refine oD (Py.lss xe ev_const) ?_ | refine oU (Py.lss xe ev_const) ?_ | refine JO.py (Py.lss xe ev_const) ?_
    refine nC ?_
    refine cT ?_
    refine JC.skip (JX.code (JC.seq (JC.block (JC.region ?_))))
    refine oM ?_
    refine oM ?_
    refine oM ?_
    refine JO.py (Py.mul ev_const xe wI) ?_
    refine JO.py (Py.shrN (8 * i) (a := v) xe xe (by omega) (by simp only [IntKind.bits]; omega)) ?_
    first | refine JO.py (Py.conv cnv43_5 xe (w_u8 (by omega))) ?_ | refine JO.py (Py.conv cnv43_5 xe (m_u8 _)) ?_
    rw [show (((v / 2 ^ (8 * i) : Nat) : Int) % 256) = ((v / 2 ^ (8 * i) % 256 : Nat) : Int) by simp]
    refine JO.call (Evs.cons xe (Evs.cons xe Evs.nil)) (writeByte_con G bf (xs ++ leN v i) (v / 2 ^ (8 * i) % 256) (by simp; omega) (by simp; omega)) xpkE ?_
    rintro _
    show JO _ _ _ _ _ _ _ ((15, _) :: _) _ (_ :: _ :: _)
    rw [List.append_assoc, ← leN_snoc]
    refine JO.nil (JX.blockN (JX.code (JC.region ?_)))
    refine oM ?_
    refine JO.py (Py.add xe ev_const wI) ?_
    refine oA ?_
    refine JO.nil ?_
    refine JX.loop (i + 1) (by omega) (by omega) xag xpkE
  · skip
    obtain rfl : i = 8 := by omega
    refine JC.seq (sR ?_)
    refine oM ?_
    first | refine oD (Py.lss xe ev_const) ?_ | refine oU (Py.lss xe ev_const) ?_ | refine JO.py (Py.lss xe ev_const) ?_
    refine nC ?_
    refine cF ?_
    refine JC.exit (JX.exit (JX.exit (JX.blockE ?_)))
    refine JX.end0 (Or.inr rfl) (()) Tryz.results50 rfl xpkE
end Go.Proofs.YtfpepghmbeoanaaGreatDoor
end

section
open Go Go.RowKit
namespace Go.Proofs.YtfpepghmbeoanaaGreatDoor
open Lz
/-- Where bytes come from: what holds while these bytes are left. -/
structure ByteSrc (G : Gst) where
  t : TypeId
  u : Value
  f : FuncId
  rcv : Value
  A : List Nat → Asn
  m : Mth Tryz.prog t u "ReadByte" f rcv
  con : ∀ (x : Nat) (rest : List Nat), x < 256 → Con Tryz.prog G f [rcv].toArray [A (x :: rest)] (fun _ : Unit => .tuple #[vu8 x, .nilIface]) (fun _ => [A rest])
abbrev RdA {G : Gst} (g : Nat) (S : ByteSrc G) (r c : Nat) : Asn := cel g 288 #[.iface S.t S.u, .int .u32 r, .int .u32 c]
/-- The decoder: its bytes tell these events. -/
def DecS {G : Gst} (g : Nat) (S : ByteSrc G) (M : PM) (l : List Ev) : Asn := Ex fun y : {y : Nat × Nat × List Nat // DecOK M y.1 y.2.1 y.2.2 l} => [RdA g S y.1.1 y.1.2.1, S.A y.1.2.2]
theorem or_low {a x : Nat} (h : x < 256) : a * 256 ||| x = a * 256 + x := by
  have := Nat.shiftLeft_add_eq_or_of_lt (b := x) (i := 8) h a
  rw [Nat.shiftLeft_eq] at this
  exact this.symm
set_option maxRecDepth 100000 in
theorem code_con (G : Gst) (g : Nat) (S : ByteSrc G) (r c x : Nat) (rest : List Nat) (hc : c < 16777216) (hx : x < 256) :
    Con Tryz.prog G 106 #[.pointer (some ⟨g, 0, none⟩)] [RdA g S r c, S.A (x :: rest)] (fun _ : Unit => .nilIface) (fun _ => [RdA g S r (c * 256 + x), S.A rest]) := by
  have ho := or_low (a := c) hx
  refine Con.intro Tryz.func106 rfl (by kernel_rfl) Tryz.ntmps106 (Nat.le_of_ble_eq_true rfl) ?_
  intro F
  show JC _ _ _ _ _ _ [(0, _)] _ [_, _, _]
  refine sR ?_
  refine oC ?_
  refine nC (sR ?_)
  refine oM ?_
  refine JO.py (Py.nil xe) ?_
  refine JO.py (Py.fld fld288_0 xe xoff) ?_
  refine JO.py (Py.load scal169 xe xpick xrow) ?_
  refine JO.invoke xe Evs.nil (S.m) (S.con x rest hx) xpkE ?_
  rintro _
  show JO _ _ _ _ _ _ _ ((10, _) :: _) _ (_ :: _ :: _)
  refine oM ?_
  refine JO.py (Py.extrI xe xix) ?_
  refine JO.py (Py.extrI xe xix) ?_
  refine oA ?_
  refine oA ?_
  refine nC (JC.seq (sR ?_))
  refine oM ?_
  first | refine JO.py (Py.neqNil Tryz.underlying70 xe rfl) ?_ | refine JO.py (Py.neqHeld Tryz.underlying70 xe rfl) ?_
  refine nC ?_
  refine cF ?_
  refine JC.skip (JX.code (sR ?_))
  refine oM ?_
  refine oM ?_
  refine JO.py (Py.nil xe) ?_
  refine JO.py (Py.fld fld288_2 xe xoff) ?_
  refine JO.py (Py.load scal45 xe xpick xrow) ?_
  first | refine JO.py (Py.shl 8 256 xe ev_const rfl (by decide) (by decide) (w_u32 (by omega))) ?_ | refine JO.py (Py.shl 8 256 xe ev_const rfl (by decide) (by decide) (m_u32 _)) ?_
  refine oM ?_
  first | refine JO.py (Py.conv cnv5_45 xe (w_u32 (by omega))) ?_ | refine JO.py (Py.conv cnv5_45 xe (m_u32 _)) ?_
  refine JO.py (Py.to (Py.orN xe xe (r_u32 (by omega)) (r_u32 (by omega)) (by decide)) (v' := .int .u32 (c * 256 + x : Nat)) (vint (by rw [show ((c : Int) * 256).toNat = c * 256 by omega, show ((x : Nat) : Int).toNat = x by omega, ho]))) ?_
  refine JO.py (Py.nil xe) ?_
  refine JO.py (Py.fld fld288_2 xe xoff) ?_
  refine JO.store siz45 xe xe (by first | rfl | assumption) xpick xsize xnorm ?_
  refine nC (sR ?_)
  refine oC ?_
  refine nC (JC.ret ?_)
  refine JX.end1 (Or.inl rfl) (()) Tryz.results106 ((xe).trans (by first | exact xval | (dsimp only; exact xval))) xpkE
theorem dec_bit0 {M : PM} {r c : Nat} {rb : List Nat} {id ix : Nat} {l : List Ev} (h : DecOK M r c rb (.bit id ix false :: l)) : (16777216 ≤ r ∧ r < 4294967296) ∧ ∀ bd, r / 2048 * M id ix = bd → c < bd ∧
    ((bd < 16777216 ∧ ∃ x rb', rb = x :: rb' ∧ x < 256 ∧ DecOK (evM M (.bit id ix false)) (bd * 256) (c * 256 + x) rb' l) ∨ (¬ bd < 16777216 ∧ DecOK (evM M (.bit id ix false)) bd c rb l)) := by
  obtain ⟨h1, h2, h3, h4⟩ := h
  have eo : evOff M r (.bit id ix false) = 0 := rfl
  have ew : evWid M r (.bit id ix false) = r / 2048 * M id ix := rfl
  simp only [eo, ew, Nat.zero_add, Nat.sub_zero] at h3 h4
  refine ⟨h1, fun bd hbd => ?_⟩
  rw [hbd] at h3
  refine ⟨h3, ?_⟩
  by_cases hn : bd < 16777216
  · rw [if_pos (by rw [hbd]; exact hn), hbd] at h4; exact .inl ⟨hn, h4⟩
  · rw [if_neg (by rw [hbd]; exact hn), hbd] at h4; exact .inr ⟨hn, h4⟩
theorem dec_bit1 {M : PM} {r c : Nat} {rb : List Nat} {id ix : Nat} {l : List Ev} (h : DecOK M r c rb (.bit id ix true :: l)) : (16777216 ≤ r ∧ r < 4294967296) ∧ ∀ bd, r / 2048 * M id ix = bd → bd ≤ c ∧ c < bd + (r - bd) ∧
    ((r - bd < 16777216 ∧ ∃ x rb', rb = x :: rb' ∧ x < 256 ∧ DecOK (evM M (.bit id ix true)) ((r - bd) * 256) ((c - bd) * 256 + x) rb' l) ∨ (¬ r - bd < 16777216 ∧ DecOK (evM M (.bit id ix true)) (r - bd) (c - bd) rb l)) := by
  obtain ⟨h1, h2, h3, h4⟩ := h
  have eo : evOff M r (.bit id ix true) = r / 2048 * M id ix := rfl
  have ew : evWid M r (.bit id ix true) = r - r / 2048 * M id ix := rfl
  simp only [eo, ew] at h2 h3 h4
  refine ⟨h1, fun bd hbd => ?_⟩
  rw [hbd] at h2 h3
  refine ⟨h2, h3, ?_⟩
  by_cases hn : r - bd < 16777216
  · rw [if_pos (by rw [hbd]; exact hn), hbd] at h4; exact .inl ⟨hn, h4⟩
  · rw [if_neg (by rw [hbd]; exact hn), hbd] at h4; exact .inr ⟨hn, h4⟩
theorem dec_even {M : PM} {r c : Nat} {rb : List Nat} {b : Bool} {l : List Ev} (h : DecOK M r c rb (.even b :: l)) : (16777216 ≤ r ∧ r < 4294967296) ∧ (b = true → r / 2 ≤ c) ∧ ∀ c', c' = (if b then c - r / 2 else c) → c' < r / 2 ∧
    ((r / 2 < 16777216 ∧ ∃ x rb', rb = x :: rb' ∧ x < 256 ∧ DecOK M (r / 2 * 256) (c' * 256 + x) rb' l) ∨ (¬ r / 2 < 16777216 ∧ DecOK M (r / 2) c' rb l)) := by
  obtain ⟨h1, h2, h3, h4⟩ := h
  have ew : evWid M r (.even b) = r / 2 := rfl
  have ee : evM M (.even b) = M := rfl
  have eo : evOff M r (.even b) = if b then r / 2 else 0 := rfl
  rw [ew, eo] at h3
  rw [eo] at h2
  simp only [ew, ee] at h4
  refine ⟨h1, fun hb => by rw [hb] at h2; simpa using h2, fun c' hc => ?_⟩
  have hc2 : c - evOff M r (.even b) = c' := by rw [hc, eo]; cases b <;> simp
  rw [hc2] at h4
  refine ⟨by rw [hc]; cases b <;> simp at h2 h3 ⊢ <;> omega, ?_⟩
  by_cases hn : r / 2 < 16777216
  · rw [if_pos hn] at h4; exact .inl ⟨hn, h4⟩
  · rw [if_neg hn] at h4; exact .inr ⟨hn, h4⟩
theorem bound_con (G : Gst) (p r : Nat) (hp : p ≤ 2017) (hr : r < 4294967296) : Con Tryz.prog G 184 #[.int .u16 (p : Int), .int .u32 (r : Int)] [] (fun _ : Unit => .int .u32 (r / 2048 * p : Nat)) (fun _ => []) := by
  have h2 : r / 2048 * p ≤ r / 2048 * 2017 := Nat.mul_le_mul_left _ hp
  have hbi : (r : Int) / 2048 * (p : Int) = ((r / 2048 * p : Nat) : Int) := by simp
  obtain ⟨bd, hbd⟩ : ∃ bd, r / 2048 * p = bd := ⟨_, rfl⟩
  rw [hbd] at h2 hbi
  rw [hbd]
  refine Con.intro Tryz.func184 rfl (by kernel_rfl) Tryz.ntmps184 (Nat.le_of_ble_eq_true rfl) ?_
  intro F
  show JC _ _ _ _ _ _ [(0, _), (1, _)] _ [_]
  refine sR ?_
  refine oC ?_
  refine nC (sR ?_)
  refine oM ?_
  refine JO.py (Py.shr 11 2048 xe ev_const rfl (by decide) (by decide) (by decide)) ?_
  refine oM ?_
  first | refine JO.py (Py.conv cnv250_45 xe (w_u32 (by omega))) ?_ | refine JO.py (Py.conv cnv250_45 xe (m_u32 _)) ?_
  first | refine JO.py (Py.mul xe xe (w_u32 (by omega))) ?_ | refine JO.py (Py.mul xe xe (m_u32 _)) ?_
  refine oA ?_
  refine nC (JC.ret ?_)
  refine JX.end1 (Or.inl rfl) (()) Tryz.results184 ((xe).trans (by first | exact xval | (dsimp only; exact xval))) xpkE
set_option maxRecDepth 100000 in
theorem inc_con (G : Gst) (b o p : Nat) (T : TypeId) (cs : Array Value) (hcs : cs[o]? = some (vu16 p)) (hp : 31 ≤ p ∧ p ≤ 2017) : Con Tryz.prog G 185 #[.pointer (some ⟨b, o, none⟩)] [cel b T cs] (fun _ : Unit => .tuple #[]) (fun _ => [cel b T (cs.setIfInBounds o (vu16 (updP p false)))]) := by
  have hsz : o < cs.size := (Array.getElem?_eq_some_iff.1 hcs).1
  have hu : updP p false = p + (2048 - p) / 32 := rfl
  rw [hu]
  refine Con.intro Tryz.func185 rfl (by kernel_rfl) Tryz.ntmps185 (Nat.le_of_ble_eq_true rfl) ?_
  intro F
  show JC _ _ _ _ _ _ [(0, _)] _ [_, _]
  refine JC.regionM [(0, true), (1, true), (2, true), (3, true), (4, true), (5, true), (6, true), (7, true), (8, true), (9, true), (10, false)] mixed (by kernel_rfl) ?_
  refine JM.py ao ⟨fun _ => Py.move xe⟩ ?_
  refine JM.py ao ⟨fun _ => Py.nil xe⟩ ?_
  refine JM.ld ao scal250 xe xpick xrow ?_
  refine JM.py ao ⟨fun _ => Py.move xe⟩ ?_
  refine JM.py ao ⟨fun _ => Py.nil xe⟩ ?_
  refine JM.ld ao scal250 xe xpick xrow ?_
  first | refine JM.py ao ⟨fun _ => Py.sub ev_const xe (w_u16 (by omega))⟩ ?_ | refine JM.py ao ⟨fun _ => Py.sub ev_const xe (m_u16 _)⟩ ?_
  refine JM.py ao ⟨fun _ => Py.shr 5 32 xe ev_const rfl (by decide) (by decide) (by decide)⟩ ?_
  first | refine JM.py ao ⟨fun _ => Py.add xe xe (w_u16 (by omega))⟩ ?_ | refine JM.py ao ⟨fun _ => Py.add xe xe (m_u16 _)⟩ ?_
  refine JM.py ao ⟨fun _ => Py.nil xe⟩ ?_
  refine JM.eff ao ?_
  refine JO.store siz250 xe xe (by first | rfl | assumption) xpick xsize xnorm ?_
  refine JO.nil ?_
  refine JX.mix (Kept.drop (Forced.step (by kernel_rfl)) (Kept.drop (Forced.step (by kernel_rfl)) Kept.nil)) ?_
  refine JM.nil ?_
  refine JX.as (A := cel b T _) (A' := cel b T (cs.setIfInBounds o (vu16 (p + (2048 - p) / 32)))) xpick (cel_eq (by congr 1; exact vint (by omega))) ?_
  refine JX.end0 (Or.inr rfl) (()) Tryz.results185 rfl xpkE
set_option maxRecDepth 100000 in
theorem dec_con (G : Gst) (b o p : Nat) (T : TypeId) (cs : Array Value) (hcs : cs[o]? = some (vu16 p)) (hp : 31 ≤ p ∧ p ≤ 2017) : Con Tryz.prog G 186 #[.pointer (some ⟨b, o, none⟩)] [cel b T cs] (fun _ : Unit => .tuple #[]) (fun _ => [cel b T (cs.setIfInBounds o (vu16 (updP p true)))]) := by
  have hsz : o < cs.size := (Array.getElem?_eq_some_iff.1 hcs).1
  have hu : updP p true = p - p / 32 := rfl
  rw [hu]
  refine Con.intro Tryz.func186 rfl (by kernel_rfl) Tryz.ntmps186 (Nat.le_of_ble_eq_true rfl) ?_
  intro F
  show JC _ _ _ _ _ _ [(0, _)] _ [_, _]
  refine JC.regionM [(0, true), (1, true), (2, true), (3, true), (4, true), (5, true), (6, true), (7, true), (8, true), (9, false)] mixed (by kernel_rfl) ?_
  refine JM.py ao ⟨fun _ => Py.move xe⟩ ?_
  refine JM.py ao ⟨fun _ => Py.nil xe⟩ ?_
  refine JM.ld ao scal250 xe xpick xrow ?_
  refine JM.py ao ⟨fun _ => Py.move xe⟩ ?_
  refine JM.py ao ⟨fun _ => Py.nil xe⟩ ?_
  refine JM.ld ao scal250 xe xpick xrow ?_
  refine JM.py ao ⟨fun _ => Py.shr 5 32 xe ev_const rfl (by decide) (by decide) (by decide)⟩ ?_
  first | refine JM.py ao ⟨fun _ => Py.sub xe xe (w_u16 (by omega))⟩ ?_ | refine JM.py ao ⟨fun _ => Py.sub xe xe (m_u16 _)⟩ ?_
  refine JM.py ao ⟨fun _ => Py.nil xe⟩ ?_
  refine JM.eff ao ?_
  refine JO.store siz250 xe xe (by first | rfl | assumption) xpick xsize xnorm ?_
  refine JO.nil ?_
  refine JX.mix (Kept.drop (Forced.step (by kernel_rfl)) (Kept.drop (Forced.step (by kernel_rfl)) Kept.nil)) ?_
  refine JM.nil ?_
  refine JX.as (A := cel b T _) (A' := cel b T (cs.setIfInBounds o (vu16 (p - p / 32)))) xpick (cel_eq (by congr 1; exact vint (by omega))) ?_
  refine JX.end0 (Or.inr rfl) (()) Tryz.results186 rfl xpkE
set_option maxRecDepth 100000 in
theorem dbit_con (G : Gst) (g : Nat) (S : ByteSrc G) {M : PM} (hM : PMok M) (l : List Ev) (id ix : Nat) (bit : Bool) (b o : Nat) (T : TypeId) (cs : Array Value) (hcs : cs[o]? = some (vu16 (M id ix))) :
    Con Tryz.prog G 173 #[.pointer (some ⟨g, 0, none⟩), .pointer (some ⟨b, o, none⟩)] [DecS g S M (.bit id ix bit :: l), cel b T cs] (fun _ : Unit => .tuple #[.int .u32 (bit.toNat : Int), .nilIface])
      (fun _ => [DecS g S (evM M (.bit id ix bit)) l, cel b T (cs.setIfInBounds o (vu16 (updP (M id ix) bit)))]) := by
  have hp := hM id ix
  obtain ⟨p, hpd⟩ : ∃ p, M id ix = p := ⟨_, rfl⟩
  unfold DecS
  refine Con.intro Tryz.func173 rfl (by kernel_rfl) Tryz.ntmps173 (Nat.le_of_ble_eq_true rfl) ?_
  intro F
  show JC _ _ _ _ _ _ [(0, _), (1, _)] _ [_, _, _]
  refine JC.open xpick ?_
  rintro ⟨⟨r, c, rb⟩, hd⟩
  show JC _ _ _ _ _ _ _ _ (_ :: _ :: _ :: _ :: _)
  dsimp only at hd ⊢
  obtain ⟨bd, hbd⟩ : ∃ bd, r / 2048 * M id ix = bd := ⟨_, rfl⟩
  have hsz : o < cs.size := (Array.getElem?_eq_some_iff.1 hcs).1
  have hm : r / 2048 * 31 ≤ r / 2048 * M id ix ∧ r / 2048 * M id ix ≤ r / 2048 * 2017 := ⟨Nat.mul_le_mul_left _ hp.1, Nat.mul_le_mul_left _ hp.2⟩
  cases bit
  · skip
    obtain ⟨⟨hr, hr2⟩, hd⟩ := dec_bit0 hd
    obtain ⟨hd2, hd3⟩ := hd bd hbd
    rw [hpd] at hp hcs hbd hm ⊢
    rw [hbd] at hm
    refine sR ?_
    refine oC ?_
    refine oC ?_
    refine nC (JC.seq ?_)
    refine JC.regionM [(0, true), (1, true), (2, true), (3, true), (4, true), (5, true), (6, true), (7, false), (8, true)] mixed (by kernel_rfl) ?_
    refine JM.py ao ⟨fun _ => Py.move xe⟩ ?_
    refine JM.py ao ⟨fun _ => Py.nil xe⟩ ?_
    refine JM.ld ao scal250 xe xpick xrow ?_
    refine JM.py ao ⟨fun _ => Py.move xe⟩ ?_
    refine JM.py ao ⟨fun _ => Py.nil xe⟩ ?_
    refine JM.py ao ⟨fun _ => Py.fld fld288_1 xe xoff⟩ ?_
    refine JM.ld ao scal45 xe xpick xrow ?_
    refine JM.eff ao ?_
    refine JO.call (Evs.cons xe (Evs.cons xe Evs.nil)) (bound_con G p r hp.2 hr2) xpkE ?_
    rintro _
    show JO _ _ _ _ _ _ _ ((14, _) :: _) _ (_ :: _)
    rw [hbd]
    refine JO.nil ?_
    refine JX.mix (Kept.drop (Forced.step (by kernel_rfl)) (Kept.drop (Forced.step (by kernel_rfl)) Kept.nil)) ?_
    refine JM.py ao ⟨fun _ => Py.assign xe⟩ ?_
    refine JM.nil (JX.code (JC.seq (sR ?_)))
    refine oM ?_
    refine JO.py (Py.nil xe) ?_
    refine JO.py (Py.fld fld288_2 xe xoff) ?_
    refine JO.py (Py.load scal45 xe xpick xrow) ?_
    refine oM ?_
    first | refine oD (Py.lss xe xe) ?_ | refine oU (Py.lss xe xe) ?_ | refine JO.py (Py.lss xe xe) ?_
    refine nC ?_
    refine cT ?_
    refine sR ?_
    refine oM ?_
    refine oM ?_
    refine JO.py (Py.nil xe) ?_
    refine JO.py (Py.fld fld288_1 xe xoff) ?_
    refine JO.store siz45 xe xe (by first | rfl | assumption) xpick xsize xnorm ?_
    refine nC (sR ?_)
    refine oM ?_
    refine JO.call (Evs.cons xe Evs.nil) (inc_con G b o p T cs hcs hp) xpkE ?_
    rintro _
    show JO _ _ _ _ _ _ _ ((26, _) :: _) _ (_ :: _ :: _)
    refine nC (JC.region ?_)
    refine oC ?_
    refine nC (JC.seq (sR ?_))
    refine oM ?_
    refine JO.py (Py.nil xe) ?_
    refine JO.py (Py.fld fld288_1 xe xoff) ?_
    refine JO.py (Py.load scal45 xe xpick xrow) ?_
    first | refine oD (Py.geq xe ev_const) ?_ | refine oU (Py.geq xe ev_const) ?_ | refine JO.py (Py.geq xe ev_const) ?_
    refine nC ?_
    rcases hd3 with ⟨hn, x, rb', rfl, hx, hd4⟩ | ⟨hn, hd3⟩
    · skip
      refine cF ?_
      refine JC.skip (JX.code (sR ?_))
      refine oM ?_
      refine JO.py (Py.nil xe) ?_
      refine JO.py (Py.fld fld288_1 xe xoff) ?_
      refine JO.py (Py.load scal45 xe xpick xrow) ?_
      first | refine JO.py (Py.shl 8 256 xe ev_const rfl (by decide) (by decide) (w_u32 (by omega))) ?_ | refine JO.py (Py.shl 8 256 xe ev_const rfl (by decide) (by decide) (m_u32 _)) ?_
      refine JO.py (Py.nil xe) ?_
      refine JO.py (Py.fld fld288_1 xe xoff) ?_
      refine JO.store siz45 xe xe (by first | rfl | assumption) xpick xsize xnorm ?_
      refine nC (sR ?_)
      refine oM ?_
      refine oM ?_
      refine JO.call (Evs.cons xe Evs.nil) (code_con G g S _ c x rb' (by omega) hx) xpkE ?_
      rintro _
      show JO _ _ _ _ _ _ _ ((60, _) :: _) _ (_ :: _ :: _ :: _)
      refine oA ?_
      refine oA ?_
      refine nC (JC.ret ?_)
      refine JX.shut (f := (fun y : {y : Nat × Nat × List Nat // DecOK (evM M (.bit id ix false)) y.1 y.2.1 y.2.2 l} => [RdA g S y.1.1 y.1.2.1, S.A y.1.2.2])) (⟨(bd * 256, c * 256 + x, rb'), hd4⟩) xpicks ?_
      refine JX.end2 (Or.inl rfl) (()) Tryz.results173 (tup2 ((xe).trans (by first | exact xval | (dsimp only; exact xval))) ((xe).trans (by first | exact xval | (dsimp only; exact xval)))) xpkE
    · skip
      refine cT ?_
      refine sR ?_
      refine oM ?_
      refine oA ?_
      refine oC ?_
      refine nC (JC.ret (JX.ret ?_))
      refine JX.shut (f := (fun y : {y : Nat × Nat × List Nat // DecOK (evM M (.bit id ix false)) y.1 y.2.1 y.2.2 l} => [RdA g S y.1.1 y.1.2.1, S.A y.1.2.2])) (⟨(bd, c, rb), hd3⟩) xpicks ?_
      refine JX.end2 (Or.inl rfl) (()) Tryz.results173 (tup2 ((xe).trans (by first | exact xval | (dsimp only; exact xval))) ((xe).trans (by first | exact xval | (dsimp only; exact xval)))) xpkE
  · skip
    obtain ⟨⟨hr, hr2⟩, hd⟩ := dec_bit1 hd
    obtain ⟨hd1, hd2, hd3⟩ := hd bd hbd
    rw [hpd] at hp hcs hbd hm ⊢
    rw [hbd] at hm
    refine sR ?_
    refine oC ?_
    refine oC ?_
    refine nC (JC.seq ?_)
    refine JC.regionM [(0, true), (1, true), (2, true), (3, true), (4, true), (5, true), (6, true), (7, false), (8, true)] mixed (by kernel_rfl) ?_
    refine JM.py ao ⟨fun _ => Py.move xe⟩ ?_
    refine JM.py ao ⟨fun _ => Py.nil xe⟩ ?_
    refine JM.ld ao scal250 xe xpick xrow ?_
    refine JM.py ao ⟨fun _ => Py.move xe⟩ ?_
    refine JM.py ao ⟨fun _ => Py.nil xe⟩ ?_
    refine JM.py ao ⟨fun _ => Py.fld fld288_1 xe xoff⟩ ?_
    refine JM.ld ao scal45 xe xpick xrow ?_
    refine JM.eff ao ?_
    refine JO.call (Evs.cons xe (Evs.cons xe Evs.nil)) (bound_con G p r hp.2 hr2) xpkE ?_
    rintro _
    show JO _ _ _ _ _ _ _ ((14, _) :: _) _ (_ :: _)
    rw [hbd]
    refine JO.nil ?_
    refine JX.mix (Kept.drop (Forced.step (by kernel_rfl)) (Kept.drop (Forced.step (by kernel_rfl)) Kept.nil)) ?_
    refine JM.py ao ⟨fun _ => Py.assign xe⟩ ?_
    refine JM.nil (JX.code (JC.seq (sR ?_)))
    refine oM ?_
    refine JO.py (Py.nil xe) ?_
    refine JO.py (Py.fld fld288_2 xe xoff) ?_
    refine JO.py (Py.load scal45 xe xpick xrow) ?_
    refine oM ?_
    first | refine oD (Py.lss xe xe) ?_ | refine oU (Py.lss xe xe) ?_ | refine JO.py (Py.lss xe xe) ?_
    refine nC ?_
    refine cF ?_
    refine sR ?_
    refine oM ?_
    refine JO.py (Py.nil xe) ?_
    refine JO.py (Py.fld fld288_2 xe xoff) ?_
    refine JO.py (Py.load scal45 xe xpick xrow) ?_
    refine oM ?_
    first | refine JO.py (Py.sub xe xe (w_u32 (by omega))) ?_ | refine JO.py (Py.sub xe xe (m_u32 _)) ?_
    refine JO.py (Py.nil xe) ?_
    refine JO.py (Py.fld fld288_2 xe xoff) ?_
    refine JO.store siz45 xe xe (by first | rfl | assumption) xpick xsize xnorm ?_
    refine nC (sR ?_)
    refine oM ?_
    refine JO.py (Py.nil xe) ?_
    refine JO.py (Py.fld fld288_1 xe xoff) ?_
    refine JO.py (Py.load scal45 xe xpick xrow) ?_
    refine oM ?_
    first | refine JO.py (Py.sub xe xe (w_u32 (by omega))) ?_ | refine JO.py (Py.sub xe xe (m_u32 _)) ?_
    refine JO.py (Py.nil xe) ?_
    refine JO.py (Py.fld fld288_1 xe xoff) ?_
    refine JO.store siz45 xe xe (by first | rfl | assumption) xpick xsize xnorm ?_
    refine nC (sR ?_)
    refine oM ?_
    refine JO.call (Evs.cons xe Evs.nil) (dec_con G b o p T cs hcs hp) xpkE ?_
    rintro _
    show JO _ _ _ _ _ _ _ ((44, _) :: _) _ (_ :: _ :: _)
    refine nC (JC.region ?_)
    refine oC ?_
    refine nC (JC.seq (sR ?_))
    refine oM ?_
    refine JO.py (Py.nil xe) ?_
    refine JO.py (Py.fld fld288_1 xe xoff) ?_
    refine JO.py (Py.load scal45 xe xpick xrow) ?_
    first | refine oD (Py.geq xe ev_const) ?_ | refine oU (Py.geq xe ev_const) ?_ | refine JO.py (Py.geq xe ev_const) ?_
    refine nC ?_
    rcases hd3 with ⟨hn, x, rb', rfl, hx, hd4⟩ | ⟨hn, hd3⟩
    · skip
      refine cF ?_
      refine JC.skip (JX.code (sR ?_))
      refine oM ?_
      refine JO.py (Py.nil xe) ?_
      refine JO.py (Py.fld fld288_1 xe xoff) ?_
      refine JO.py (Py.load scal45 xe xpick xrow) ?_
      first | refine JO.py (Py.shl 8 256 xe ev_const rfl (by decide) (by decide) (w_u32 (by omega))) ?_ | refine JO.py (Py.shl 8 256 xe ev_const rfl (by decide) (by decide) (m_u32 _)) ?_
      refine JO.py (Py.nil xe) ?_
      refine JO.py (Py.fld fld288_1 xe xoff) ?_
      refine JO.store siz45 xe xe (by first | rfl | assumption) xpick xsize xnorm ?_
      refine nC (sR ?_)
      refine oM ?_
      refine oM ?_
      refine JO.call (Evs.cons xe Evs.nil) (code_con G g S ((r - bd) * 256) (c - bd) x rb' (by omega) hx) xpkE ?_
      rintro _
      show JO _ _ _ _ _ _ _ ((60, _) :: _) _ (_ :: _ :: _ :: _)
      refine oA ?_
      refine oA ?_
      refine nC (JC.ret ?_)
      refine JX.shut (f := (fun y : {y : Nat × Nat × List Nat // DecOK (evM M (.bit id ix true)) y.1 y.2.1 y.2.2 l} => [RdA g S y.1.1 y.1.2.1, S.A y.1.2.2])) (⟨((r - bd) * 256, (c - bd) * 256 + x, rb'), hd4⟩) xpicks ?_
      refine JX.end2 (Or.inl rfl) (()) Tryz.results173 (tup2 ((xe).trans (by first | exact xval | (dsimp only; exact xval))) ((xe).trans (by first | exact xval | (dsimp only; exact xval)))) xpkE
    · skip
      refine cT ?_
      refine sR ?_
      refine oM ?_
      refine oA ?_
      refine oC ?_
      refine nC (JC.ret (JX.ret ?_))
      refine JX.shut (f := (fun y : {y : Nat × Nat × List Nat // DecOK (evM M (.bit id ix true)) y.1 y.2.1 y.2.2 l} => [RdA g S y.1.1 y.1.2.1, S.A y.1.2.2])) (⟨(r - bd, c - bd, rb), hd3⟩) xpicks ?_
      refine JX.end2 (Or.inl rfl) (()) Tryz.results173 (tup2 ((xe).trans (by first | exact xval | (dsimp only; exact xval))) ((xe).trans (by first | exact xval | (dsimp only; exact xval)))) xpkE
end Go.Proofs.YtfpepghmbeoanaaGreatDoor
end

section
open Go Go.RowKit
namespace Go.Proofs.YtfpepghmbeoanaaGreatDoor
open Lz
theorem or_bit {a x : Nat} (h : x < 2) : a * 2 ||| x = 2 * a + x := by
  have := Nat.shiftLeft_add_eq_or_of_lt (b := x) (i := 1) h a
  rw [Nat.shiftLeft_eq, Nat.pow_one] at this
  omega
theorem or_top {j a x : Nat} (h : x < 2 ^ j) : x ||| a * 2 ^ j = a * 2 ^ j + x := by
  have := Nat.shiftLeft_add_eq_or_of_lt (b := x) (i := j) h a
  rw [Nat.shiftLeft_eq] at this
  rw [Nat.or_comm]; exact this.symm
theorem toNat_le (b : Bool) : b.toNat ≤ 1 := by cases b <;> decide
/-- The highest bits of a number, one more. -/
theorem div_bit (v k : Nat) : v / 2 ^ k = 2 * (v / 2 ^ (k + 1)) + (v.testBit k).toNat := by
  rw [← bit_val, Nat.pow_succ, ← Nat.div_div_eq_div_mul]; omega
/-- The lowest bits of a number, one more. -/
theorem mod_bit (v k : Nat) : v % 2 ^ (k + 1) = (v.testBit k).toNat * 2 ^ k + v % 2 ^ k := by
  rw [← bit_val, Nat.mod_pow_succ]; rw [Nat.mul_comm, Nat.add_comm]
set_option maxRecDepth 100000 in
theorem deven_con (G : Gst) (g : Nat) (S : ByteSrc G) {M : PM} (l : List Ev) (bit : Bool) :
    Con Tryz.prog G 187 #[.pointer (some ⟨g, 0, none⟩)] [DecS g S M (.even bit :: l)] (fun _ : Unit => .tuple #[.int .u32 (bit.toNat : Int), .nilIface]) (fun _ => [DecS g S M l]) := by
  unfold DecS
  refine Con.intro Tryz.func187 rfl (by kernel_rfl) Tryz.ntmps187 (Nat.le_of_ble_eq_true rfl) ?_
  intro F
  show JC _ _ _ _ _ _ [(0, _)] _ [_, _]
  refine JC.open xpick ?_
  rintro ⟨⟨r, c, rb⟩, hd⟩
  show JC _ _ _ _ _ _ _ _ (_ :: _ :: _ :: _)
  dsimp only at hd ⊢
  obtain ⟨⟨hr, hr2⟩, hd1, hd⟩ := dec_even hd
  have hand : ∀ x : Nat, x < 4294967296 → x &&& 4294967295 = x := fun x hx => by
    have := Nat.and_two_pow_sub_one_eq_mod x 32
    rw [show 2 ^ 32 - 1 = 4294967295 from rfl, show 2 ^ 32 = 4294967296 from rfl] at this
    rw [this, Nat.mod_eq_of_lt hx]
  cases bit
  · skip
    obtain ⟨hd2, hd3⟩ := hd c rfl
    refine sR ?_
    refine oC ?_
    refine oC ?_
    refine nC (sR ?_)
    refine oM ?_
    refine JO.py (Py.nil xe) ?_
    refine JO.py (Py.fld fld288_1 xe xoff) ?_
    refine JO.py (Py.load scal45 xe xpick xrow) ?_
    refine JO.py (Py.shr 1 2 xe ev_const rfl (by decide) (by decide) (by decide)) ?_
    refine JO.py (Py.nil xe) ?_
    refine JO.py (Py.fld fld288_1 xe xoff) ?_
    refine JO.store siz45 xe xe (by first | rfl | assumption) xpick xsize xnorm ?_
    refine nC (JC.seq ?_)
    refine JC.regionM [(0, true), (1, true), (2, true), (3, true), (4, true), (5, true), (6, true), (7, true), (8, true), (9, true), (10, true), (11, false)] mixed (by kernel_rfl) ?_
    refine JM.py ao ⟨fun _ => Py.move xe⟩ ?_
    refine JM.py ao ⟨fun _ => Py.nil xe⟩ ?_
    refine JM.py ao ⟨fun _ => Py.fld fld288_2 xe xoff⟩ ?_
    refine JM.ld ao scal45 xe xpick xrow ?_
    refine JM.py ao ⟨fun _ => Py.move xe⟩ ?_
    refine JM.py ao ⟨fun _ => Py.nil xe⟩ ?_
    refine JM.py ao ⟨fun _ => Py.fld fld288_1 xe xoff⟩ ?_
    refine JM.ld ao scal45 xe xpick xrow ?_
    first | refine JM.py ao ⟨fun _ => Py.sub xe xe (w_u32 (by omega))⟩ ?_ | refine JM.py ao ⟨fun _ => Py.sub xe xe (m_u32 _)⟩ ?_
    refine JM.py ao ⟨fun _ => Py.nil xe⟩ ?_
    refine JM.py ao ⟨fun _ => Py.fld fld288_2 xe xoff⟩ ?_
    refine JM.eff ao ?_
    refine JO.store siz45 xe xe (by first | rfl | assumption) xpick xsize xnorm ?_
    refine JO.nil ?_
    refine JX.mix (Kept.drop (Forced.step (by kernel_rfl)) (Kept.drop (Forced.step (by kernel_rfl)) Kept.nil)) ?_
    refine JM.nil (JX.code (sR ?_))
    refine oM ?_
    refine JO.py (Py.nil xe) ?_
    refine JO.py (Py.fld fld288_2 xe xoff) ?_
    refine JO.py (Py.load scal45 xe xpick xrow) ?_
    refine JO.py (Py.shr 31 2147483648 xe ev_const rfl (by decide) (by decide) (by decide)) ?_
    refine JO.py (Py.to (Py.sub ev_const xe (m_u32 _)) (v' := .int .u32 4294967295) (vint (by omega))) ?_
    refine oA ?_
    refine nC (JC.seq ?_)
    refine JC.regionM [(0, true), (1, true), (2, true), (3, true), (4, true), (5, true), (6, true), (7, true), (8, true), (9, true), (10, true), (11, true), (12, true), (13, false)] mixed (by kernel_rfl) ?_
    refine JM.py ao ⟨fun _ => Py.move xe⟩ ?_
    refine JM.py ao ⟨fun _ => Py.nil xe⟩ ?_
    refine JM.py ao ⟨fun _ => Py.fld fld288_2 xe xoff⟩ ?_
    refine JM.ld ao scal45 xe xpick xrow ?_
    refine JM.py ao ⟨fun _ => Py.move xe⟩ ?_
    refine JM.py ao ⟨fun _ => Py.nil xe⟩ ?_
    refine JM.py ao ⟨fun _ => Py.fld fld288_1 xe xoff⟩ ?_
    refine JM.ld ao scal45 xe xpick xrow ?_
    refine JM.py ao ⟨fun _ => Py.move xe⟩ ?_
    refine JM.py ao ⟨fun _ => Py.to (Py.andN xe xe (r_u32 (by omega)) (r_u32 (by omega)) (by decide)) (v' := .int .u32 (r / 2 : Nat)) (vint (by rw [show ((r : Int) / 2).toNat = r / 2 by omega, show (4294967295 : Int).toNat = 4294967295 from rfl, hand _ (by omega)]))⟩ ?_
    refine JM.py ao ⟨fun _ => Py.to (Py.add xe xe (m_u32 _)) (v' := .int .u32 (c : Nat)) (vint (by omega))⟩ ?_
    refine JM.py ao ⟨fun _ => Py.nil xe⟩ ?_
    refine JM.py ao ⟨fun _ => Py.fld fld288_2 xe xoff⟩ ?_
    refine JM.eff ao ?_
    refine JO.store siz45 xe xe (by first | rfl | assumption) xpick xsize xnorm ?_
    refine JO.nil ?_
    refine JX.mix (Kept.drop (Forced.step (by kernel_rfl)) (Kept.drop (Forced.step (by kernel_rfl)) Kept.nil)) ?_
    refine JM.nil (JX.code (sR ?_))
    refine oM ?_
    first | refine JO.py (Py.add xe ev_const (w_u32 (by omega))) ?_ | refine JO.py (Py.add xe ev_const (m_u32 _)) ?_
    refine JO.py (Py.mask 1 2 xe ev_const (by decide) (by decide) (by decide) (r_u32 (by omega)) (w_u32 (by omega))) ?_
    refine oA ?_
    refine nC (JC.seq (sR ?_))
    refine oM ?_
    refine JO.py (Py.nil xe) ?_
    refine JO.py (Py.fld fld288_1 xe xoff) ?_
    refine JO.py (Py.load scal45 xe xpick xrow) ?_
    first | refine oD (Py.geq xe ev_const) ?_ | refine oU (Py.geq xe ev_const) ?_ | refine JO.py (Py.geq xe ev_const) ?_
    refine nC ?_
    rcases hd3 with ⟨hn, x, rb', rfl, hx, hd4⟩ | ⟨hn, hd3⟩
    · skip
      refine cF ?_
      refine JC.skip (JX.code (sR ?_))
      refine oM ?_
      refine JO.py (Py.nil xe) ?_
      refine JO.py (Py.fld fld288_1 xe xoff) ?_
      refine JO.py (Py.load scal45 xe xpick xrow) ?_
      first | refine JO.py (Py.shl 8 256 xe ev_const rfl (by decide) (by decide) (w_u32 (by omega))) ?_ | refine JO.py (Py.shl 8 256 xe ev_const rfl (by decide) (by decide) (m_u32 _)) ?_
      refine JO.py (Py.nil xe) ?_
      refine JO.py (Py.fld fld288_1 xe xoff) ?_
      refine JO.store siz45 xe xe (by first | rfl | assumption) xpick xsize xnorm ?_
      refine nC (sR ?_)
      refine oM ?_
      refine oM ?_
      refine JO.call (Evs.cons xe Evs.nil) (code_con G g S (r / 2 * 256) c x rb' (by omega) hx) xpkE ?_
      rintro _
      show JO _ _ _ _ _ _ _ ((60, _) :: _) _ (_ :: _ :: _ :: _)
      refine oA ?_
      refine oA ?_
      refine nC (JC.ret ?_)
      refine JX.shut (f := (fun y : {y : Nat × Nat × List Nat // DecOK M y.1 y.2.1 y.2.2 l} => [RdA g S y.1.1 y.1.2.1, S.A y.1.2.2])) (⟨(r / 2 * 256, c * 256 + x, rb'), hd4⟩) xpicks ?_
      refine JX.end2 (Or.inl rfl) (()) Tryz.results187 (tup2 ((xe).trans (by first | exact xval | (dsimp only; exact xval))) ((xe).trans (by first | exact xval | (dsimp only; exact xval)))) xpkE
    · skip
      refine cT ?_
      refine sR ?_
      refine oM ?_
      refine oA ?_
      refine oC ?_
      refine nC (JC.ret (JX.ret ?_))
      refine JX.shut (f := (fun y : {y : Nat × Nat × List Nat // DecOK M y.1 y.2.1 y.2.2 l} => [RdA g S y.1.1 y.1.2.1, S.A y.1.2.2])) (⟨(r / 2, c, rb), hd3⟩) xpicks ?_
      refine JX.end2 (Or.inl rfl) (()) Tryz.results187 (tup2 ((xe).trans (by first | exact xval | (dsimp only; exact xval))) ((xe).trans (by first | exact xval | (dsimp only; exact xval)))) xpkE
  · skip
    have hd1 := hd1 rfl
    obtain ⟨hd2, hd3⟩ := hd (c - r / 2) rfl
    obtain ⟨c2, hc2⟩ : ∃ x, c - r / 2 = x := ⟨_, rfl⟩
    rw [hc2] at hd2 hd3
    have hc2 : c = r / 2 + c2 := by omega
    subst hc2
    clear hd
    refine sR ?_
    refine oC ?_
    refine oC ?_
    refine nC (sR ?_)
    refine oM ?_
    refine JO.py (Py.nil xe) ?_
    refine JO.py (Py.fld fld288_1 xe xoff) ?_
    refine JO.py (Py.load scal45 xe xpick xrow) ?_
    refine JO.py (Py.shr 1 2 xe ev_const rfl (by decide) (by decide) (by decide)) ?_
    refine JO.py (Py.nil xe) ?_
    refine JO.py (Py.fld fld288_1 xe xoff) ?_
    refine JO.store siz45 xe xe (by first | rfl | assumption) xpick xsize xnorm ?_
    refine nC (JC.seq ?_)
    refine JC.regionM [(0, true), (1, true), (2, true), (3, true), (4, true), (5, true), (6, true), (7, true), (8, true), (9, true), (10, true), (11, false)] mixed (by kernel_rfl) ?_
    refine JM.py ao ⟨fun _ => Py.move xe⟩ ?_
    refine JM.py ao ⟨fun _ => Py.nil xe⟩ ?_
    refine JM.py ao ⟨fun _ => Py.fld fld288_2 xe xoff⟩ ?_
    refine JM.ld ao scal45 xe xpick xrow ?_
    refine JM.py ao ⟨fun _ => Py.move xe⟩ ?_
    refine JM.py ao ⟨fun _ => Py.nil xe⟩ ?_
    refine JM.py ao ⟨fun _ => Py.fld fld288_1 xe xoff⟩ ?_
    refine JM.ld ao scal45 xe xpick xrow ?_
    first | refine JM.py ao ⟨fun _ => Py.sub xe xe (w_u32 (by omega))⟩ ?_ | refine JM.py ao ⟨fun _ => Py.sub xe xe (m_u32 _)⟩ ?_
    refine JM.py ao ⟨fun _ => Py.nil xe⟩ ?_
    refine JM.py ao ⟨fun _ => Py.fld fld288_2 xe xoff⟩ ?_
    refine JM.eff ao ?_
    refine JO.store siz45 xe xe (by first | rfl | assumption) xpick xsize xnorm ?_
    refine JO.nil ?_
    refine JX.mix (Kept.drop (Forced.step (by kernel_rfl)) (Kept.drop (Forced.step (by kernel_rfl)) Kept.nil)) ?_
    refine JM.nil (JX.code (sR ?_))
    refine oM ?_
    refine JO.py (Py.nil xe) ?_
    refine JO.py (Py.fld fld288_2 xe xoff) ?_
    refine JO.py (Py.load scal45 xe xpick xrow) ?_
    refine JO.py (Py.shr 31 2147483648 xe ev_const rfl (by decide) (by decide) (by decide)) ?_
    refine JO.py (Py.to (Py.sub ev_const xe (m_u32 _)) (v' := .int .u32 0) (vint (by omega))) ?_
    refine oA ?_
    refine nC (JC.seq ?_)
    refine JC.regionM [(0, true), (1, true), (2, true), (3, true), (4, true), (5, true), (6, true), (7, true), (8, true), (9, true), (10, true), (11, true), (12, true), (13, false)] mixed (by kernel_rfl) ?_
    refine JM.py ao ⟨fun _ => Py.move xe⟩ ?_
    refine JM.py ao ⟨fun _ => Py.nil xe⟩ ?_
    refine JM.py ao ⟨fun _ => Py.fld fld288_2 xe xoff⟩ ?_
    refine JM.ld ao scal45 xe xpick xrow ?_
    refine JM.py ao ⟨fun _ => Py.move xe⟩ ?_
    refine JM.py ao ⟨fun _ => Py.nil xe⟩ ?_
    refine JM.py ao ⟨fun _ => Py.fld fld288_1 xe xoff⟩ ?_
    refine JM.ld ao scal45 xe xpick xrow ?_
    refine JM.py ao ⟨fun _ => Py.move xe⟩ ?_
    refine JM.py ao ⟨fun _ => Py.to (Py.andN xe xe (r_u32 (by omega)) (r_u32 (by omega)) (by decide)) (v' := .int .u32 0) (vint (by rw [show (0 : Int).toNat = 0 from rfl, Nat.and_zero]; rfl))⟩ ?_
    refine JM.py ao ⟨fun _ => Py.to (Py.add xe xe (m_u32 _)) (v' := .int .u32 (c2 : Nat)) (vint (by omega))⟩ ?_
    refine JM.py ao ⟨fun _ => Py.nil xe⟩ ?_
    refine JM.py ao ⟨fun _ => Py.fld fld288_2 xe xoff⟩ ?_
    refine JM.eff ao ?_
    refine JO.store siz45 xe xe (by first | rfl | assumption) xpick xsize xnorm ?_
    refine JO.nil ?_
    refine JX.mix (Kept.drop (Forced.step (by kernel_rfl)) (Kept.drop (Forced.step (by kernel_rfl)) Kept.nil)) ?_
    refine JM.nil (JX.code (sR ?_))
    refine oM ?_
    first | refine JO.py (Py.add xe ev_const (w_u32 (by omega))) ?_ | refine JO.py (Py.add xe ev_const (m_u32 _)) ?_
    refine JO.py (Py.mask 1 2 xe ev_const (by decide) (by decide) (by decide) (r_u32 (by omega)) (w_u32 (by omega))) ?_
    refine oA ?_
    refine nC (JC.seq (sR ?_))
    refine oM ?_
    refine JO.py (Py.nil xe) ?_
    refine JO.py (Py.fld fld288_1 xe xoff) ?_
    refine JO.py (Py.load scal45 xe xpick xrow) ?_
    first | refine oD (Py.geq xe ev_const) ?_ | refine oU (Py.geq xe ev_const) ?_ | refine JO.py (Py.geq xe ev_const) ?_
    refine nC ?_
    rcases hd3 with ⟨hn, x, rb', rfl, hx, hd4⟩ | ⟨hn, hd3⟩
    · skip
      refine cF ?_
      refine JC.skip (JX.code (sR ?_))
      refine oM ?_
      refine JO.py (Py.nil xe) ?_
      refine JO.py (Py.fld fld288_1 xe xoff) ?_
      refine JO.py (Py.load scal45 xe xpick xrow) ?_
      first | refine JO.py (Py.shl 8 256 xe ev_const rfl (by decide) (by decide) (w_u32 (by omega))) ?_ | refine JO.py (Py.shl 8 256 xe ev_const rfl (by decide) (by decide) (m_u32 _)) ?_
      refine JO.py (Py.nil xe) ?_
      refine JO.py (Py.fld fld288_1 xe xoff) ?_
      refine JO.store siz45 xe xe (by first | rfl | assumption) xpick xsize xnorm ?_
      refine nC (sR ?_)
      refine oM ?_
      refine oM ?_
      refine JO.call (Evs.cons xe Evs.nil) (code_con G g S (r / 2 * 256) c2 x rb' (by omega) hx) xpkE ?_
      rintro _
      show JO _ _ _ _ _ _ _ ((60, _) :: _) _ (_ :: _ :: _ :: _)
      refine oA ?_
      refine oA ?_
      refine nC (JC.ret ?_)
      refine JX.shut (f := (fun y : {y : Nat × Nat × List Nat // DecOK M y.1 y.2.1 y.2.2 l} => [RdA g S y.1.1 y.1.2.1, S.A y.1.2.2])) (⟨(r / 2 * 256, c2 * 256 + x, rb'), hd4⟩) xpicks ?_
      refine JX.end2 (Or.inl rfl) (()) Tryz.results187 (tup2 ((xe).trans (by first | exact xval | (dsimp only; exact xval))) ((xe).trans (by first | exact xval | (dsimp only; exact xval)))) xpkE
    · skip
      refine cT ?_
      refine sR ?_
      refine oM ?_
      refine oA ?_
      refine oC ?_
      refine nC (JC.ret (JX.ret ?_))
      refine JX.shut (f := (fun y : {y : Nat × Nat × List Nat // DecOK M y.1 y.2.1 y.2.2 l} => [RdA g S y.1.1 y.1.2.1, S.A y.1.2.2])) (⟨(r / 2, c2, rb), hd3⟩) xpicks ?_
      refine JX.end2 (Or.inl rfl) (()) Tryz.results187 (tup2 ((xe).trans (by first | exact xval | (dsimp only; exact xval))) ((xe).trans (by first | exact xval | (dsimp only; exact xval)))) xpkE
set_option maxRecDepth 100000 in
theorem direct_con (G : Gst) (g : Nat) (S : ByteSrc G) {M : PM} (l : List Ev) (v n : Nat) (hn : n ≤ 26) (hv : v < 2 ^ n) :
    Con Tryz.prog G 180 #[.int .u8 (n : Int), .pointer (some ⟨g, 0, none⟩)] [DecS g S M (evenEv v n ++ l)] (fun _ : Unit => .tuple #[.int .u32 (v : Int), .nilIface]) (fun _ => [DecS g S M l]) := by
  have hp26 : 2 ^ n ≤ 2 ^ 26 := Nat.pow_le_pow_right (by decide) hn
  refine Con.intro Tryz.func180 rfl (by kernel_rfl) Tryz.ntmps180 (Nat.le_of_ble_eq_true rfl) ?_
  intro F
  show JC _ _ _ _ _ _ [(0, _), (1, _)] _ [_, _]
  refine sR ?_
  refine oC ?_
  refine oC ?_
  refine nC (JC.seq (sR ?_))
  refine oM ?_
  first | refine JO.py (Py.conv cnv355_3 xe wI) ?_ | refine JO.py (Py.conv cnv355_3 xe rfl) ?_
  refine JO.py (Py.sub xe ev_const wI) ?_
  refine oA ?_
  refine nC (JC.block ?_)
  refine JC.loop (ι := Nat) (fun k => k ≤ n) (fun k => [(1, .pointer (some ⟨g, 0, none⟩)), (4, .int .u32 (v / 2 ^ k : Nat)), (6, .int .i64 ((k : Int) - 1))]) (fun k => [DecS g S M (evenEv v k ++ l), F]) (fun k => k) n (Nat.le_refl _) (by (try dsimp only); rw [Nat.div_eq_of_lt hv]; exact xagree) xpkE ?_
  rintro k base' hk
  have hk : k ≤ n := hk
  rcases k with _ | k
  · skip
    refine JC.as (A := DecS g S M (evenEv v 0 ++ l)) (A' := DecS g S M l) xpick (rfl) ?_
    refine JC.seq (sR ?_)
    refine oM ?_
    first | refine oD (Py.geq xe ev_const) ?_ | refine oU (Py.geq xe ev_const) ?_ | refine JO.py (Py.geq xe ev_const) ?_
    refine nC ?_
    refine cF ?_
    refine JC.exit (JX.exit (JX.exit (JX.blockE (JX.code (sR ?_)))))
    refine oM ?_
    refine oA ?_
    refine oC ?_
    refine nC (JC.ret ?_)
    refine JX.end2 (Or.inl rfl) (()) Tryz.results180 (tup2 ((xe).trans (by first | exact vint (by simp) | exact xval)) ((xe).trans (xval))) xpkE
  · skip
    have hb1 := toNat_le (v.testBit k)
    have hdb := div_bit v k
    have hdl := Nat.div_le_self v (2 ^ (k + 1))
    obtain ⟨q, hq⟩ : ∃ q, v / 2 ^ (k + 1) = q := ⟨_, rfl⟩
    rw [hq] at hdb hdl
    refine JC.as (A := DecS g S M (evenEv v (k + 1) ++ l)) (A' := DecS g S M (.even (v.testBit k) :: (evenEv v k ++ l))) xpick (rfl) ?_
    refine JC.seq (sR ?_)
    refine oM ?_
    first | refine oD (Py.geq xe ev_const) ?_ | refine oU (Py.geq xe ev_const) ?_ | refine JO.py (Py.geq xe ev_const) ?_
    refine nC ?_
    refine cT ?_
    refine JC.skip (JX.code (JC.seq (JC.block (sR ?_))))
    refine oM ?_
    refine JO.call (Evs.cons xe Evs.nil) (deven_con G g S (evenEv v k ++ l) (v.testBit k)) xpkE ?_
    rintro _
    show JO _ _ _ _ _ _ _ ((18, _) :: _) _ (_ :: _ :: _)
    refine oM ?_
    refine JO.py (Py.extrI xe xix) ?_
    refine JO.py (Py.extrI xe xix) ?_
    refine oA ?_
    refine oA ?_
    refine nC (JC.seq (sR ?_))
    refine oM ?_
    first | refine JO.py (Py.neqNil Tryz.underlying70 xe rfl) ?_ | refine JO.py (Py.neqHeld Tryz.underlying70 xe rfl) ?_
    refine nC ?_
    refine cF ?_
    refine JC.skip (JX.code (JC.region ?_))
    refine oM ?_
    first | refine JO.py (Py.shl 1 2 xe ev_const rfl (by decide) (by decide) (w_u32 (by omega))) ?_ | refine JO.py (Py.shl 1 2 xe ev_const rfl (by decide) (by decide) (m_u32 _)) ?_
    refine oM ?_
    refine JO.py (Py.to (Py.orN xe xe (r_u32 (by omega)) (r_u32 (by omega)) (by decide)) (v' := .int .u32 (v / 2 ^ k : Nat)) (vint (by rw [hq, hdb, ← or_bit (by omega)]; congr 2 <;> omega))) ?_
    refine oA ?_
    refine JO.nil (JX.blockN (JX.code (JC.region ?_)))
    refine oM ?_
    refine JO.py (Py.sub xe ev_const wI) ?_
    refine oA ?_
    refine JO.nil ?_
    refine JX.loop k (by omega) (by omega) xag xpkE
end Go.Proofs.YtfpepghmbeoanaaGreatDoor
end

section
open Go Go.RowKit
namespace Go.Proofs.YtfpepghmbeoanaaGreatDoor
open Lz
def Tab.rowD (T : Tab) (M : PM) (id : Nat) : Asn := cel (T.blk id) 250 (chs (M id) (T.len id))
/-- The decoder's rows of chances. -/
def ChD (T : Tab) (M : PM) : Asn := stars (T.ids.map (T.rowD M))
theorem lendD {G : Gst} {w : World} {T : Tab} {M : PM} {r : List Asn} {id : Nat} (hid : id ∈ T.ids) (hw : Sat G w (ChD T M :: r)) : Sat G w (T.rowD M id :: ((T.ids.erase id).map (T.rowD M) ++ r)) :=
  hw.of fun hs => by
    have h1 := stars_flat.1 hs
    rw [stars_append] at h1
    obtain ⟨h1, h2, hd, he, ha, hb⟩ := h1
    have := (pick_map (F := T.rowD M) hid).to ha
    exact (stars_append (a := T.rowD M id :: (T.ids.erase id).map (T.rowD M)) (b := r)).2 ⟨h1, h2, hd, he, this, hb⟩
theorem unlendD {G : Gst} {w : World} {T : Tab} {M M' : PM} {r : List Asn} {id : Nat} (hid : id ∈ T.ids) (hnd : T.ids.Nodup) (hM : ∀ j, j ≠ id → M j = M' j) (hw : Sat G w (T.rowD M' id :: ((T.ids.erase id).map (T.rowD M) ++ r))) : Sat G w (ChD T M' :: r) :=
  hw.of fun hs => by
    refine stars_flat.2 ?_
    rw [but_eq (F := T.rowD M) (F' := T.rowD M') hnd (fun j hj => by unfold Tab.rowD; rw [hM j hj])] at hs
    obtain ⟨h1, h2, hd, he, ha, hb⟩ := (stars_append (a := T.rowD M' id :: (T.ids.erase id).map (T.rowD M')) (b := r)).1 hs
    exact stars_append.2 ⟨h1, h2, hd, he, (pick_map (F := T.rowD M') hid).back ha, hb⟩
theorem pick_mid {A : Asn} {B : Asn} {l : List Asn} {F : Asn} : Pick A (B :: (l ++ [A, F])) (B :: (l ++ [F])) := by
  refine .there ?_
  induction l with
  | nil => exact .here
  | cons x l ih => exact .there ih
/-- A bit by a chance of a row. -/
theorem dbitT (G : Gst) (g : Nat) (S : ByteSrc G) {T : Tab} (hT : T.Ok) {M : PM} (hM : PMok M) (l : List Ev) {id ix : Nat} (hid : id ∈ T.ids) (hq : ix < T.len id) (b : Bool) :
    Con Tryz.prog G 173 #[.pointer (some ⟨g, 0, none⟩), .pointer (some ⟨T.blk id, ix, none⟩)] [DecS g S M (.bit id ix b :: l), ChD T M] (fun _ : Unit => .tuple #[.int .u32 (b.toNat : Int), .nilIface])
      (fun _ => [DecS g S (evM M (.bit id ix b)) l, ChD T (evM M (.bit id ix b))]) := by
  refine Con.conseq (dbit_con G g S hM l id ix b (T.blk id) ix 250 (chs (M id) (T.len id)) (chs_get hq)) fun F w hw => ?_
  have h1 := lendD hid (hw.pick (.there .here))
  refine ⟨stars ((T.ids.erase id).map (T.rowD M) ++ [F]), ?_, ?_⟩
  · have h2 : Sat G w ([DecS g S M (.bit id ix b :: l), T.rowD M id] ++ ((T.ids.erase id).map (T.rowD M) ++ [F])) := h1.of fun hs => pick_mid.to hs
    exact h2.of fun hs => stars_pack.1 hs
  · rintro ⟨⟩ w' hw'
    refine ⟨(), rfl, ?_⟩
    have h2 := hw'.of fun hs => stars_pack.2 hs
    have hrow : cel (T.blk id) 250 ((chs (M id) (T.len id)).setIfInBounds ix (vu16 (updP (M id ix) b))) = T.rowD (evM M (.bit id ix b)) id := by
      unfold Tab.rowD
      rw [chs_upd (b := b) rfl]
      congr 2
      funext j
      simp [evM, upd, updR]
    rw [hrow] at h2
    have h3 : Sat G w' (T.rowD (evM M (.bit id ix b)) id :: ((T.ids.erase id).map (T.rowD M) ++ [DecS g S (evM M (.bit id ix b)) l, F])) := h2.of fun hs => pick_mid.back hs
    have h4 := unlendD hid hT.nodup (M := M) (fun j hj => by funext k; simp [evM, upd, hj]) h3
    exact h4.unpick (.there .here)
theorem probDec_con (G : Gst) (g : Nat) (S : ByteSrc G) {M : PM} (hM : PMok M) (l : List Ev) (id ix : Nat) (bit : Bool) (b o : Nat) (T : TypeId) (cs : Array Value) (hcs : cs[o]? = some (vu16 (M id ix))) :
    Con Tryz.prog G 162 #[.pointer (some ⟨b, o, none⟩), .pointer (some ⟨g, 0, none⟩)] [DecS g S M (.bit id ix bit :: l), cel b T cs] (fun _ : Unit => .tuple #[.int .u32 (bit.toNat : Int), .nilIface])
      (fun _ => [DecS g S (evM M (.bit id ix bit)) l, cel b T (cs.setIfInBounds o (vu16 (updP (M id ix) bit)))]) := by
  refine Con.intro Tryz.func162 rfl (by kernel_rfl) Tryz.ntmps162 (Nat.le_of_ble_eq_true rfl) ?_
  intro F
  show JC _ _ _ _ _ _ [(0, _), (1, _)] _ [_, _, _]
  refine sR ?_
  refine oC ?_
  refine oC ?_
  refine nC (sR ?_)
  refine oM ?_
  refine oM ?_
  refine JO.call (Evs.cons xe (Evs.cons xe Evs.nil)) (dbit_con G g S hM l id ix bit b o T cs hcs) xpkE ?_
  rintro _
  show JO _ _ _ _ _ _ _ ((8, _) :: _) _ (_ :: _ :: _ :: _)
  refine JO.py (Py.extrI xe xix) ?_
  refine JO.py (Py.extrI xe xix) ?_
  refine oA ?_
  refine oA ?_
  refine nC (JC.ret ?_)
  refine JX.end2 (Or.inl rfl) (()) Tryz.results162 (tup2 ((xe).trans (by first | exact xval | (dsimp only; exact xval))) ((xe).trans (by first | exact xval | (dsimp only; exact xval)))) xpkE
set_option maxRecDepth 100000 in
theorem treeD_con (G : Gst) (g : Nat) (S : ByteSrc G) (T : Tab) (hT : T.Ok) (M : PM) (hM : PMok M) (id n v : Nat) (l : List Ev) (sb off : Nat) (X : TypeId) (fr : Nat × Nat) (scs : Array Value) (hid : id ∈ T.ids) (hlen : T.len id = 2 ^ n) (hn : n ≤ 8) (hv : v < 2 ^ n)
    (h0 : scs[off]? = some (T.sl id)) (h1 : scs[off + 1]? = some (.int .u8 (n : Int))) :
    Con Tryz.prog G 177 #[.pointer (some ⟨sb, off, none⟩), .pointer (some ⟨g, 0, none⟩)] [DecS g S M (treeEv id 0 v n 1 ++ l), ChD T M, blk sb (.cells scs X fr)] (fun _ : Unit => .tuple #[.int .u32 (v : Int), .nilIface])
      (fun _ => [DecS g S (evsM M (treeEv id 0 v n 1)) l, ChD T (evsM M (treeEv id 0 v n 1)), blk sb (.cells scs X fr)]) := by
  have hp8 : 2 ^ n ≤ 2 ^ 8 := Nat.pow_le_pow_right (by decide) hn
  have hpi : (1 : Int) * 2 ^ n = ((2 ^ n : Nat) : Int) := by push_cast; simp
  obtain ⟨pn, hpn⟩ : ∃ pn, 2 ^ n = pn := ⟨_, rfl⟩
  unfold Tab.sl at h0
  rw [hlen] at h0
  rw [hpn] at hp8 hpi h0 hlen
  refine Con.intro Tryz.func177 rfl (by kernel_rfl) Tryz.ntmps177 (Nat.le_of_ble_eq_true rfl) ?_
  intro F
  show JC _ _ _ _ _ _ [(0, _), (1, _)] _ [_, _, _, _]
  refine sR ?_
  refine oC ?_
  refine oC ?_
  refine nC (sR ?_)
  refine oC ?_
  refine nC (JC.seq (sR ?_))
  refine oC ?_
  refine nC (JC.block ?_)
  refine JC.loop (ι := Nat × Nat × PM) (fun i => i.1 ≤ n ∧ i.2.1 = 2 ^ (n - i.1) + v / 2 ^ i.1 ∧ PMok i.2.2 ∧ evsM i.2.2 (treeEv id 0 v i.1 i.2.1) = evsM M (treeEv id 0 v n 1))
    (fun i => [(0, .pointer (some ⟨sb, off, none⟩)), (1, .pointer (some ⟨g, 0, none⟩)), (6, .int .u32 i.2.1), (7, .int .i64 ((n - i.1 : Nat) : Int))]) (fun i => [DecS g S i.2.2 (treeEv id 0 v i.1 i.2.1 ++ l), ChD T i.2.2, blk sb (.cells scs X fr), F]) (fun i => i.1) (n, 1, M)
    ⟨Nat.le_refl _, by dsimp only; rw [Nat.sub_self, Nat.div_eq_of_lt hv], hM, rfl⟩ (by dsimp only; rw [Nat.sub_self]; exact xagree) xpkE ?_
  rintro ⟨k, m, M1⟩ base' ⟨hk, hm, hM1, hev⟩
  dsimp only at hk hm hM1 hev ⊢
  rcases k with _ | k
  · skip
    refine JC.as (A := DecS g S M1 (treeEv id 0 v 0 m ++ l)) (A' := DecS g S M1 l) xpick (rfl) ?_
    have hm2 : m = pn + v := by rw [hm, Nat.sub_zero, hpn, Nat.pow_zero, Nat.div_one]
    refine JC.seq (sR ?_)
    refine oM ?_
    refine oM ?_
    refine JO.py (Py.nil xe) ?_
    refine JO.py (Py.fld fld260_0 xe xoff) ?_
    refine JO.py (Py.fld fld258_1 xe xoff) ?_
    refine JO.py (Py.load scal5 xe xpick xrow) ?_
    first | refine JO.py (Py.conv cnv5_3 xe wI) ?_ | refine JO.py (Py.conv cnv5_3 xe rfl) ?_
    first | refine oD (Py.lss xe xe) ?_ | refine oU (Py.lss xe xe) ?_ | refine JO.py (Py.lss xe xe) ?_
    refine nC ?_
    refine cF ?_
    refine JC.exit (JX.exit (JX.exit (JX.blockE (JX.code (sR ?_)))))
    refine oM ?_
    refine oM ?_
    refine JO.py (Py.nil xe) ?_
    refine JO.py (Py.fld fld260_0 xe xoff) ?_
    refine JO.py (Py.fld fld258_1 xe xoff) ?_
    refine JO.py (Py.load scal5 xe xpick xrow) ?_
    first | refine JO.py (Py.conv cnv5_67 xe (w_u64 (by omega))) ?_ | refine JO.py (Py.conv cnv5_67 xe (m_u64 _)) ?_
    refine JO.py (Py.shlN n (c := ((pn : Nat) : Int)) ev_const xe (by omega) (by simp only [IntKind.bits]; omega) (by rw [hpi]; exact w_u32 (by omega))) ?_
    first | refine JO.py (Py.sub xe xe (w_u32 (by omega))) ?_ | refine JO.py (Py.sub xe xe (m_u32 _)) ?_
    refine oA ?_
    refine oC ?_
    refine nC (JC.ret ?_)
    obtain rfl : M1 = _ := hev
    refine JX.end2 (Or.inl rfl) (()) Tryz.results177 (tup2 ((xe).trans (by first | exact xval | (dsimp only; exact xval))) ((xe).trans (by first | exact xval | (dsimp only; exact xval)))) xpkE
  · skip
    have hb1 := toNat_le (v.testBit k)
    have hdb := div_bit v k
    have hdl := Nat.div_lt_of_lt_mul (show v < 2 ^ (k + 1) * 2 ^ (n - (k + 1)) by rw [← Nat.pow_add, show k + 1 + (n - (k + 1)) = n by omega]; exact hv)
    have hpk : 2 ^ (n - k) = 2 * 2 ^ (n - (k + 1)) := by rw [show n - k = n - (k + 1) + 1 by omega, Nat.pow_succ, Nat.mul_comm]
    have hpk2 : 2 ^ (n - k) ≤ pn := by rw [← hpn]; exact Nat.pow_le_pow_right (by decide) (by omega)
    have hmn : 2 * m + (v.testBit k).toNat = 2 ^ (n - k) + v / 2 ^ k := by omega
    obtain ⟨q, hq⟩ : ∃ q, 2 ^ (n - (k + 1)) = q := ⟨_, rfl⟩
    obtain ⟨q2, hq2⟩ : ∃ q, v / 2 ^ (k + 1) = q := ⟨_, rfl⟩
    rw [hq] at hdl hpk hm
    rw [hq2] at hdl hm
    have hmb : m < pn := by omega
    rw [show treeEv id 0 v (k + 1) m = .bit id (0 + m) (v.testBit k) :: treeEv id 0 v k (2 * m + (v.testBit k).toNat) from rfl, Nat.zero_add] at hev
    refine JC.as (A := DecS g S M1 (treeEv id 0 v (k + 1) m ++ l)) (A' := DecS g S M1 (.bit id m (v.testBit k) :: (treeEv id 0 v k (2 * m + (v.testBit k).toNat) ++ l))) xpick (by rw [show treeEv id 0 v (k + 1) m = .bit id (0 + m) (v.testBit k) :: treeEv id 0 v k (2 * m + (v.testBit k).toNat) from rfl, Nat.zero_add]; rfl) ?_
    refine JC.seq (sR ?_)
    refine oM ?_
    refine oM ?_
    refine JO.py (Py.nil xe) ?_
    refine JO.py (Py.fld fld260_0 xe xoff) ?_
    refine JO.py (Py.fld fld258_1 xe xoff) ?_
    refine JO.py (Py.load scal5 xe xpick xrow) ?_
    first | refine JO.py (Py.conv cnv5_3 xe wI) ?_ | refine JO.py (Py.conv cnv5_3 xe rfl) ?_
    first | refine oD (Py.lss xe xe) ?_ | refine oU (Py.lss xe xe) ?_ | refine JO.py (Py.lss xe xe) ?_
    refine nC ?_
    refine cT ?_
    refine JC.skip (JX.code (JC.seq (JC.block (sR ?_))))
    refine oM ?_
    refine oM ?_
    refine JO.py (Py.nil xe) ?_
    refine JO.py (Py.fld fld260_0 xe xoff) ?_
    refine JO.py (Py.fld fld258_0 xe xoff) ?_
    refine JO.py (Py.load scal253 xe xpick xrow) ?_
    refine oM ?_
    refine JO.py (Py.idxS (j := m) Tryz.underlying253 siz250 xe xe (by omega) (by omega) xmult) ?_
    refine JO.call (Evs.cons xe (Evs.cons xe Evs.nil)) (dbitT G g S hT hM1 (treeEv id 0 v k (2 * m + (v.testBit k).toNat) ++ l) hid (ix := m) (by omega) (v.testBit k)) xpkE ?_
    rintro _
    show JO _ _ _ _ _ _ _ ((29, _) :: _) _ (_ :: _ :: _ :: _)
    refine oM ?_
    refine JO.py (Py.extrI xe xix) ?_
    refine JO.py (Py.extrI xe xix) ?_
    refine oA ?_
    refine oA ?_
    refine nC (JC.seq (sR ?_))
    refine oM ?_
    first | refine JO.py (Py.neqNil Tryz.underlying70 xe rfl) ?_ | refine JO.py (Py.neqHeld Tryz.underlying70 xe rfl) ?_
    refine nC ?_
    refine cF ?_
    refine JC.skip (JX.code (JC.region ?_))
    refine oM ?_
    first | refine JO.py (Py.shl 1 2 xe ev_const rfl (by decide) (by decide) (w_u32 (by omega))) ?_ | refine JO.py (Py.shl 1 2 xe ev_const rfl (by decide) (by decide) (m_u32 _)) ?_
    refine oM ?_
    refine JO.py (Py.to (Py.orN xe xe (r_u32 (by omega)) (r_u32 (by omega)) (by decide)) (v' := .int .u32 (2 * m + (v.testBit k).toNat : Nat)) (vint (by rw [← or_bit (by omega)]; congr 2 <;> omega))) ?_
    refine oA ?_
    refine JO.nil (JX.blockN (JX.code (JC.region ?_)))
    refine oM ?_
    refine JO.py (Py.add xe ev_const wI) ?_
    refine oA ?_
    refine JO.nil ?_
    refine JX.loop (k, 2 * m + (v.testBit k).toNat, evM M1 (.bit id m (v.testBit k))) ⟨by dsimp only; omega, hmn, by dsimp only; exact evM_ok hM1 _, hev⟩ (by dsimp only; omega) xag xpkE
set_option maxRecDepth 100000 in
theorem backD_con (G : Gst) (g : Nat) (S : ByteSrc G) (T : Tab) (hT : T.Ok) (M : PM) (hM : PMok M) (id n v : Nat) (l : List Ev) (sb off : Nat) (X : TypeId) (fr : Nat × Nat) (scs : Array Value) (hid : id ∈ T.ids) (hlen : T.len id = 2 ^ n) (hn : n ≤ 8) (hv : v < 2 ^ n)
    (h0 : scs[off]? = some (T.sl id)) (h1 : scs[off + 1]? = some (.int .u8 (n : Int))) :
    Con Tryz.prog G 179 #[.pointer (some ⟨sb, off, none⟩), .pointer (some ⟨g, 0, none⟩)] [DecS g S M (backEv id 0 v n 0 1 ++ l), ChD T M, blk sb (.cells scs X fr)] (fun _ : Unit => .tuple #[.int .u32 (v : Int), .nilIface])
      (fun _ => [DecS g S (evsM M (backEv id 0 v n 0 1)) l, ChD T (evsM M (backEv id 0 v n 0 1)), blk sb (.cells scs X fr)]) := by
  have hp8 : 2 ^ n ≤ 2 ^ 8 := Nat.pow_le_pow_right (by decide) hn
  obtain ⟨pn, hpn⟩ : ∃ pn, 2 ^ n = pn := ⟨_, rfl⟩
  unfold Tab.sl at h0
  rw [hlen] at h0
  rw [hpn] at hp8 h0 hlen
  refine Con.intro Tryz.func179 rfl (by kernel_rfl) Tryz.ntmps179 (Nat.le_of_ble_eq_true rfl) ?_
  intro F
  show JC _ _ _ _ _ _ [(0, _), (1, _)] _ [_, _, _, _]
  refine sR ?_
  refine oC ?_
  refine oC ?_
  refine nC (sR ?_)
  refine oC ?_
  refine nC (JC.seq (sR ?_))
  refine oC ?_
  refine nC (JC.block ?_)
  refine JC.loop (ι := Nat × Nat × PM) (fun i => i.1 ≤ n ∧ (i.2.1 + 1) * 2 ^ i.1 ≤ 2 * 2 ^ n ∧ PMok i.2.2 ∧ evsM i.2.2 (backEv id 0 v i.1 (n - i.1) i.2.1) = evsM M (backEv id 0 v n 0 1))
    (fun i => [(0, .pointer (some ⟨sb, off, none⟩)), (1, .pointer (some ⟨g, 0, none⟩)), (4, .int .u32 (v % 2 ^ (n - i.1) : Nat)), (6, .int .u32 i.2.1), (7, .int .u64 ((n - i.1 : Nat) : Int))]) (fun i => [DecS g S i.2.2 (backEv id 0 v i.1 (n - i.1) i.2.1 ++ l), ChD T i.2.2, blk sb (.cells scs X fr), F]) (fun i => i.1) (n, 1, M)
    ⟨Nat.le_refl _, Nat.le_refl _, hM, by dsimp only; rw [Nat.sub_self]⟩ (by dsimp only; rw [Nat.sub_self, Nat.pow_zero, Nat.mod_one]; exact xagree) (by dsimp only; rw [Nat.sub_self]; exact xpkE) ?_
  rintro ⟨k, m, M1⟩ base' ⟨hk, hm, hM1, hev⟩
  dsimp only at hk hm hM1 hev ⊢
  rcases k with _ | k
  · skip
    refine JC.as (A := DecS g S M1 (backEv id 0 v 0 (n - 0) m ++ l)) (A' := DecS g S M1 l) xpick (rfl) ?_
    refine JC.seq (sR ?_)
    refine oM ?_
    refine oM ?_
    refine JO.py (Py.nil xe) ?_
    refine JO.py (Py.fld fld265_0 xe xoff) ?_
    refine JO.py (Py.fld fld258_1 xe xoff) ?_
    refine JO.py (Py.load scal5 xe xpick xrow) ?_
    first | refine JO.py (Py.conv cnv5_67 xe (w_u64 (by omega))) ?_ | refine JO.py (Py.conv cnv5_67 xe (m_u64 _)) ?_
    first | refine oD (Py.lss xe xe) ?_ | refine oU (Py.lss xe xe) ?_ | refine JO.py (Py.lss xe xe) ?_
    refine nC ?_
    refine cF ?_
    refine JC.exit (JX.exit (JX.exit (JX.blockE (JX.code (sR ?_)))))
    refine oM ?_
    refine oA ?_
    refine oC ?_
    refine nC (JC.ret ?_)
    obtain rfl : M1 = _ := hev
    refine JX.end2 (Or.inl rfl) (()) Tryz.results179 (tup2 ((xe).trans (by exact vint (by rw [Nat.sub_zero, Nat.mod_eq_of_lt hv]))) ((xe).trans (xval))) xpkE
  · skip
    have hb1 := toNat_le (v.testBit (n - (k + 1)))
    have hmod := mod_bit v (n - (k + 1))
    have hpj : 2 ^ (n - (k + 1)) ≤ 2 ^ 7 := Nat.pow_le_pow_right (by decide) (by omega)
    have hml := Nat.mod_lt v (show 0 < 2 ^ (n - (k + 1)) from Nat.pow_pos (by decide))
    have hpk : 0 < 2 ^ k := Nat.pow_pos (by decide)
    have hm1 : (m + 1) * 2 ≤ 2 * 2 ^ n := by
      refine Nat.le_trans ?_ hm
      rw [Nat.pow_succ, Nat.mul_comm (2 ^ k) 2, ← Nat.mul_assoc]
      exact Nat.le_mul_of_pos_right _ hpk
    have hm2 : (2 * m + (v.testBit (n - (k + 1))).toNat + 1) * 2 ^ k ≤ 2 * 2 ^ n := by
      refine Nat.le_trans ?_ hm
      rw [Nat.pow_succ, Nat.mul_comm (2 ^ k) 2, ← Nat.mul_assoc]
      exact Nat.mul_le_mul_right _ (by omega)
    rw [hpn] at hm1
    rw [show n - (k + 1) + 1 = n - k by omega] at hmod
    obtain ⟨j, hj⟩ : ∃ j, n - (k + 1) = j := ⟨_, rfl⟩
    have hnk : n - k = j + 1 := by omega
    have hshl : ((v.testBit j).toNat : Int) * 2 ^ j = (((v.testBit j).toNat * 2 ^ j : Nat) : Int) := by push_cast; rfl
    have hbj : (v.testBit j).toNat * 2 ^ j ≤ 1 * 2 ^ j := Nat.mul_le_mul_right _ (toNat_le _)
    have hbz := Int.natCast_nonneg ((v.testBit j).toNat * 2 ^ j)
    rw [hj] at hb1 hmod hpj hml hm2 hev
    rw [show backEv id 0 v (k + 1) j m = .bit id (0 + m) (v.testBit j) :: backEv id 0 v k (j + 1) (2 * m + (v.testBit j).toNat) from rfl, Nat.zero_add] at hev
    refine JC.as (A := DecS g S M1 (backEv id 0 v (k + 1) (n - (k + 1)) m ++ l)) (A' := DecS g S M1 (.bit id m (v.testBit j) :: (backEv id 0 v k (j + 1) (2 * m + (v.testBit j).toNat) ++ l))) xpick (by rw [hj, show backEv id 0 v (k + 1) j m = .bit id (0 + m) (v.testBit j) :: backEv id 0 v k (j + 1) (2 * m + (v.testBit j).toNat) from rfl, Nat.zero_add]; rfl) ?_
    refine JC.seq (sR ?_)
    refine oM ?_
    refine oM ?_
    refine JO.py (Py.nil xe) ?_
    refine JO.py (Py.fld fld265_0 xe xoff) ?_
    refine JO.py (Py.fld fld258_1 xe xoff) ?_
    refine JO.py (Py.load scal5 xe xpick xrow) ?_
    first | refine JO.py (Py.conv cnv5_67 xe (w_u64 (by omega))) ?_ | refine JO.py (Py.conv cnv5_67 xe (m_u64 _)) ?_
    first | refine oD (Py.lss xe xe) ?_ | refine oU (Py.lss xe xe) ?_ | refine JO.py (Py.lss xe xe) ?_
    refine nC ?_
    refine cT ?_
    refine JC.skip (JX.code (JC.seq (JC.block (sR ?_))))
    refine oM ?_
    refine oM ?_
    refine JO.py (Py.nil xe) ?_
    refine JO.py (Py.fld fld265_0 xe xoff) ?_
    refine JO.py (Py.fld fld258_0 xe xoff) ?_
    refine JO.py (Py.load scal253 xe xpick xrow) ?_
    refine oM ?_
    refine JO.py (Py.idxS (j := m) Tryz.underlying253 siz250 xe xe (by omega) (by omega) xmult) ?_
    refine JO.call (Evs.cons xe (Evs.cons xe Evs.nil)) (dbitT G g S hT hM1 (backEv id 0 v k (j + 1) (2 * m + (v.testBit j).toNat) ++ l) hid (ix := m) (by omega) (v.testBit j)) xpkE ?_
    rintro _
    show JO _ _ _ _ _ _ _ ((29, _) :: _) _ (_ :: _ :: _ :: _)
    refine oM ?_
    refine JO.py (Py.extrI xe xix) ?_
    refine JO.py (Py.extrI xe xix) ?_
    refine oA ?_
    refine oA ?_
    refine nC (JC.seq (sR ?_))
    refine oM ?_
    first | refine JO.py (Py.neqNil Tryz.underlying70 xe rfl) ?_ | refine JO.py (Py.neqHeld Tryz.underlying70 xe rfl) ?_
    refine nC ?_
    refine cF ?_
    refine JC.skip (JX.code (sR ?_))
    refine oM ?_
    first | refine JO.py (Py.shl 1 2 xe ev_const rfl (by decide) (by decide) (w_u32 (by omega))) ?_ | refine JO.py (Py.shl 1 2 xe ev_const rfl (by decide) (by decide) (m_u32 _)) ?_
    refine oM ?_
    refine JO.py (Py.to (Py.orN xe xe (r_u32 (by omega)) (r_u32 (by omega)) (by decide)) (v' := .int .u32 (2 * m + (v.testBit j).toNat : Nat)) (vint (by rw [← or_bit (by omega)]; congr 2 <;> omega))) ?_
    refine oA ?_
    refine nC (JC.region ?_)
    refine oM ?_
    refine oM ?_
    refine oM ?_
    refine JO.py (Py.shlN j (c := (((v.testBit j).toNat * 2 ^ j : Nat) : Int)) xe xe (by omega) (by simp only [IntKind.bits]; omega) (by rw [hshl]; exact w_u32 (by omega))) ?_
    refine JO.py (Py.to (Py.orN xe xe (r_u32 (by rw [hj]; omega)) (r_u32 (by omega)) (by decide)) (v' := .int .u32 (v % 2 ^ (n - k) : Nat)) (vint (by rw [hmod, ← or_top hml, hj]; congr 2))) ?_
    refine oA ?_
    refine JO.nil (JX.blockN (JX.code (JC.region ?_)))
    refine oM ?_
    first | refine JO.py (Py.add xe ev_const (w_u64 (by omega))) ?_ | refine JO.py (Py.add xe ev_const (m_u64 _)) ?_
    refine oA ?_
    refine JO.nil ?_
    refine JX.loop (k, 2 * m + (v.testBit j).toNat, evM M1 (.bit id m (v.testBit j))) ⟨by dsimp only; omega, hm2, by dsimp only; exact evM_ok hM1 _, by dsimp only; rw [hnk]; exact hev⟩ (by dsimp only; omega) xag (by dsimp only; rw [hnk]; exact xpkE)
theorem lenState_con (G : Gst) (n : Nat) (hn : n < 4294967296) : Con Tryz.prog G 178 #[.int .u32 (n : Int)] [] (fun _ : Unit => .int .u32 (min n 3 : Nat)) (fun _ => []) := by
  refine Con.intro Tryz.func178 rfl (by kernel_rfl) Tryz.ntmps178 (Nat.le_of_ble_eq_true rfl) ?_
  intro F
  show JC _ _ _ _ _ _ [(0, _)] _ [_]
  refine sR ?_
  refine oC ?_
  refine nC (JC.seq (sR ?_))
  refine oM ?_
  first | refine oD (Py.geq xe ev_const) ?_ | refine oU (Py.geq xe ev_const) ?_ | refine JO.py (Py.geq xe ev_const) ?_
  refine nC ?_
  by_cases h : n < 4
  · skip
    refine cF ?_
    refine JC.skip (JX.code (sR ?_))
    refine oM ?_
    refine oA ?_
    refine nC (JC.ret ?_)
    refine JX.end1 (Or.inl rfl) (()) Tryz.results178 ((xe).trans (by first | exact xval | (dsimp only; exact xval))) xpkE
  · skip
    refine cT ?_
    refine JC.region ?_
    refine oC ?_
    refine nC (sR ?_)
    refine oM ?_
    refine oA ?_
    refine nC (JC.ret ?_)
    refine JX.end1 (Or.inl rfl) (()) Tryz.results178 ((xe).trans (by first | exact xval | (dsimp only; exact xval))) xpkE
end Go.Proofs.YtfpepghmbeoanaaGreatDoor
end

section
open Go Go.RowKit
namespace Go.Proofs.YtfpepghmbeoanaaGreatDoor
open Lz
/-- Where a byte's decoder stands: k bits are left. -/
structure LitAt (M : PM) (id o v st old k m : Nat) (M1 : PM) (rest : List Ev) : Prop where
  le : k ≤ 8
  eq : m = 2 ^ (8 - k) + v / 2 ^ k
  ok : PMok M1
  ev : evsM M1 rest = evsM M (litEv id o v st old)
theorem LitAt.step {v k m : Nat} (hk : k + 1 ≤ 8) (hv : v < 256) (hm : m = 2 ^ (8 - (k + 1)) + v / 2 ^ (k + 1)) : 2 * m + (v.testBit k).toNat = 2 ^ (8 - k) + v / 2 ^ k ∧ m < 256 := by
  have hdb := div_bit v k
  have hpk : 2 ^ (8 - k) = 2 * 2 ^ (8 - (k + 1)) := by rw [show 8 - k = 8 - (k + 1) + 1 by omega, Nat.pow_succ, Nat.mul_comm]
  have hp7 : 2 ^ (8 - (k + 1)) ≤ 2 ^ 7 := Nat.pow_le_pow_right (by decide) (by omega)
  have hd : v / 2 ^ (k + 1) ≤ v / 2 ^ 1 := Nat.div_le_div_left (Nat.pow_le_pow_right (by decide) (by omega)) (by decide)
  exact ⟨by omega, by omega⟩
set_option maxRecDepth 100000 in
theorem litD_con (G : Gst) (g : Nat) (S : ByteSrc G) (T : Tab) (hT : T.Ok) (M : PM) (hM : PMok M) (id v st old ls mb : Nat) (l : List Ev) (sb off : Nat) (X : TypeId) (fr : Nat × Nat) (scs : Array Value) (hid : id ∈ T.ids) (hv : v < 256) (hst : st < 12) (hold : 7 ≤ st → mb = old ∧ old < 256) (hmb : mb < 256)
    (hl : 768 * ls + 768 ≤ T.len id) (hl2 : T.len id ≤ 100000) (h0 : scs[off]? = some (T.sl id)) :
    Con Tryz.prog G 176 #[.pointer (some ⟨sb, off, none⟩), .pointer (some ⟨g, 0, none⟩), .int .u32 (st : Int), .int .u8 (mb : Int), .int .u32 (ls : Int)] [DecS g S M (litEv id (768 * ls) v st old ++ l), ChD T M, blk sb (.cells scs X fr)] (fun _ : Unit => .tuple #[.int .u8 (v : Int), .nilIface])
      (fun _ => [DecS g S (evsM M (litEv id (768 * ls) v st old)) l, ChD T (evsM M (litEv id (768 * ls) v st old)), blk sb (.cells scs X fr)]) := by
  unfold Tab.sl at h0
  obtain ⟨o, ho⟩ : ∃ o, 768 * ls = o := ⟨_, rfl⟩
  have hoi : (ls : Int) * 768 = (o : Int) := by omega
  rw [ho] at hl ⊢
  obtain ⟨tl, htl⟩ : ∃ x, T.len id = x := ⟨_, rfl⟩
  rw [htl] at h0
  refine Con.intro Tryz.func176 rfl (by kernel_rfl) Tryz.ntmps176 (Nat.le_of_ble_eq_true rfl) ?_
  intro F
  show JC _ _ _ _ _ _ [(0, _), (1, _), (2, _), (3, _), (4, _)] _ [_, _, _, _]
  refine sR ?_
  refine oC ?_
  refine oC ?_
  refine nC (sR ?_)
  refine oM ?_
  first | refine JO.py (Py.mul xe ev_const (w_u32 (by omega))) ?_ | refine JO.py (Py.mul xe ev_const (m_u32 _)) ?_
  refine oA ?_
  refine nC (sR ?_)
  refine oM ?_
  refine JO.py (Py.nil xe) ?_
  refine JO.py (Py.fld fld255_0 xe xoff) ?_
  refine JO.py (Py.load scal253 xe xpick xrow) ?_
  refine oM ?_
  refine oM ?_
  first | refine JO.py (Py.add xe ev_const (w_u32 (by omega))) ?_ | refine JO.py (Py.add xe ev_const (m_u32 _)) ?_
  refine JO.py (Py.slc (l := o) (h := o + 768) (p := o) (q := 768) (c := tl - o) Tryz.underlying253 siz250 xe (Bd.some xe (by omega)) (Bd.some xe (by omega)) (by omega) (by omega) (by omega) (by omega) (by omega) (by omega)) ?_
  refine oA ?_
  refine nC (sR ?_)
  refine oC ?_
  refine nC (JC.seq (sR ?_))
  refine oM ?_
  first | refine oD (Py.geq xe ev_const) ?_ | refine oU (Py.geq xe ev_const) ?_ | refine JO.py (Py.geq xe ev_const) ?_
  refine nC ?_
  refine JC.mid (ι := {i : Nat × Nat × PM // LitAt M id o v st old i.1 i.2.1 i.2.2 (treeEv id o v i.1 i.2.1)}) (fun i => [(1, .pointer (some ⟨g, 0, none⟩)), (13, .slice (some ⟨T.blk id, o, none⟩) 768 (tl - o)), (14, .int .u32 i.1.2.1)]) (fun i => [DecS g S i.1.2.2 (treeEv id o v i.1.1 i.1.2.1 ++ l), ChD T i.1.2.2, blk sb (.cells scs X fr), F]) ?_ ?_
  · skip
    by_cases h7 : 7 ≤ st
    · skip
      obtain ⟨rfl, hold2⟩ := hold h7
      refine cT ?_
      refine sR ?_
      refine oM ?_
      first | refine JO.py (Py.conv cnv5_45 xe (w_u32 (by omega))) ?_ | refine JO.py (Py.conv cnv5_45 xe (m_u32 _)) ?_
      refine oA ?_
      refine nC (JC.block ?_)
      refine JC.loop (ι := Nat × Nat × PM) (fun i => 1 ≤ i.1 ∧ LitAt M id o v st mb i.1 i.2.1 i.2.2 (matchedEv id o v mb i.1 i.2.1)) (fun i => [(1, .pointer (some ⟨g, 0, none⟩)), (13, .slice (some ⟨T.blk id, o, none⟩) 768 (tl - o)), (14, .int .u32 i.2.1), (15, .int .u32 (mb * 2 ^ (8 - i.1) : Nat))]) (fun i => [DecS g S i.2.2 (matchedEv id o v mb i.1 i.2.1 ++ l), ChD T i.2.2, blk sb (.cells scs X fr), F]) (fun i => i.1) (8, 1, M)
        ⟨by dsimp only; omega, Nat.le_refl _, by dsimp only; rw [Nat.sub_self, Nat.div_eq_of_lt hv], hM, by dsimp only; unfold litEv; rw [if_neg (by omega)]⟩ (by dsimp only; rw [Nat.sub_self, Nat.pow_zero, Nat.mul_one]; exact xagree) (by dsimp only; unfold litEv; rw [if_neg (by omega)]; exact xpkE) ?_
      rintro ⟨k, m, M1⟩ base' ⟨hk1, hk, hm, hM1, hev⟩
      dsimp only at hk1 hk hm hM1 hev ⊢
      rcases k with _ | k
      · exact absurd hk1 (by decide)
      have hlb := top_bit mb k (by omega)
      have h65 : mb * 2 ^ (7 - k) ≤ 255 * 2 ^ 7 := Nat.mul_le_mul (by omega) (Nat.pow_le_pow_right (by decide) (by omega))
      have hx2 := dbl_pow (x := mb * 2 ^ (7 - k)) (v := mb) (k := k) (by omega) rfl
      obtain ⟨hm2, hm3⟩ := LitAt.step hk hv hm
      have hb1 := toNat_le (v.testBit k)
      have hb2 := toNat_le (mb.testBit k)
      rw [show 8 - (k + 1) = 7 - k by omega]
      obtain ⟨xx, hxx⟩ : ∃ x, mb * 2 ^ (7 - k) = x := ⟨_, rfl⟩
      rw [hxx] at hlb h65 hx2 ⊢
      obtain ⟨y, hy⟩ : ∃ y, (mb.testBit k).toNat = y := ⟨_, rfl⟩
      rw [hy] at hlb hb2
      refine JC.as (A := DecS g S M1 (matchedEv id o v mb (k + 1) m ++ l)) (A' := DecS g S M1 (.bit id (o + (256 * (1 + y) + m)) (v.testBit k) :: ((if mb.testBit k = v.testBit k then matchedEv id o v mb k (2 * m + (v.testBit k).toNat) else treeEv id o v k (2 * m + (v.testBit k).toNat)) ++ l))) xpick (by rw [← hy]; rfl) ?_
      refine JC.block (sR ?_)
      refine oM ?_
      refine JO.py (Py.shr 7 128 xe ev_const rfl (by decide) (by decide) (by decide)) ?_
      refine JO.py (Py.to (Py.mask 1 2 xe ev_const (by decide) (by decide) (by decide) (r_u32 (by omega)) (w_u32 (by omega))) (v' := .int .u32 (y : Nat)) (vint (by rw [← hlb]; omega))) ?_
      refine oA ?_
      refine nC (sR ?_)
      refine oM ?_
      first | refine JO.py (Py.shl 1 2 xe ev_const rfl (by decide) (by decide) (w_u32 (by omega))) ?_ | refine JO.py (Py.shl 1 2 xe ev_const rfl (by decide) (by decide) (m_u32 _)) ?_
      refine oA ?_
      refine nC (sR ?_)
      refine oM ?_
      first | refine JO.py (Py.add ev_const xe (w_u32 (by omega))) ?_ | refine JO.py (Py.add ev_const xe (m_u32 _)) ?_
      first | refine JO.py (Py.shl 8 256 xe ev_const rfl (by decide) (by decide) (w_u32 (by omega))) ?_ | refine JO.py (Py.shl 8 256 xe ev_const rfl (by decide) (by decide) (m_u32 _)) ?_
      refine oM ?_
      refine JO.py (Py.to (Py.orN xe xe (r_u32 (by omega)) (r_u32 (by omega)) (by decide)) (v' := .int .u32 (256 * (1 + y) + m : Nat)) (vint (by rw [show ((m : Nat) : Int).toNat = m by omega, show ∀ z : Int, z = ((1 + y) * 256 : Nat) → z.toNat = (1 + y) * 256 from fun z hz => by omega, or_low (by omega)] <;> omega))) ?_
      refine oA ?_
      refine nC (sR ?_)
      refine oM ?_
      refine oM ?_
      refine oM ?_
      refine JO.py (Py.idxS (j := 256 * (1 + y) + m) Tryz.underlying253 siz250 xe xe (by omega) (by omega) xmult) ?_
      refine JO.call (Evs.cons xe (Evs.cons xe Evs.nil)) (dbitT G g S hT hM1 _ hid (ix := o + (256 * (1 + y) + m)) (by omega) (v.testBit k)) xpkE ?_
      rintro _
      show JO _ _ _ _ _ _ _ ((51, _) :: _) _ (_ :: _ :: _ :: _)
      refine oM ?_
      refine JO.py (Py.extrI xe xix) ?_
      refine JO.py (Py.extrI xe xix) ?_
      refine oA ?_
      refine oA ?_
      refine nC (JC.seq (sR ?_))
      refine oM ?_
      first | refine JO.py (Py.neqNil Tryz.underlying70 xe rfl) ?_ | refine JO.py (Py.neqHeld Tryz.underlying70 xe rfl) ?_
      refine nC ?_
      refine cF ?_
      refine JC.skip (JX.code (sR ?_))
      refine oM ?_
      first | refine JO.py (Py.shl 1 2 xe ev_const rfl (by decide) (by decide) (w_u32 (by omega))) ?_ | refine JO.py (Py.shl 1 2 xe ev_const rfl (by decide) (by decide) (m_u32 _)) ?_
      refine oM ?_
      refine JO.py (Py.to (Py.orN xe xe (r_u32 (by omega)) (r_u32 (by omega)) (by decide)) (v' := .int .u32 (2 * m + (v.testBit k).toNat : Nat)) (vint (by rw [← or_bit (by omega)]; congr 2 <;> omega))) ?_
      refine oA ?_
      refine nC (JC.seq (sR ?_))
      refine oM ?_
      refine oM ?_
      first | refine oD (Py.neq xe xe) ?_ | refine oU (Py.neq xe xe) ?_ | refine JO.py (Py.neq xe xe) ?_
      refine nC ?_
      by_cases he : y = (v.testBit k).toNat
      · skip
        have het : mb.testBit k = v.testBit k := by
          rw [← hy] at he
          cases h1 : mb.testBit k <;> cases h2 : v.testBit k <;> simp [h1, h2] at he ⊢
        rw [show matchedEv id o v mb (k + 1) m = .bit id (o + (256 * (1 + (mb.testBit k).toNat) + m)) (v.testBit k) :: (if mb.testBit k = v.testBit k then matchedEv id o v mb k (2 * m + (v.testBit k).toNat) else treeEv id o v k (2 * m + (v.testBit k).toNat)) from rfl, if_pos het, hy] at hev
        refine cF ?_
        refine JC.skip (JX.code (sR ?_))
        refine oM ?_
        first | refine oD (Py.geq xe ev_const) ?_ | refine oU (Py.geq xe ev_const) ?_ | refine JO.py (Py.geq xe ev_const) ?_
        refine nC ?_
        rcases k with _ | k
        · skip
          have hmg : 2 * m + (v.testBit 0).toNat = 256 + v := by rw [hm2, Nat.pow_zero, Nat.div_one]
          refine cT ?_
          refine JC.exit (JX.blockO rfl (JX.exit (JX.blockE ?_)))
          refine JX.cut ⟨(0, 2 * m + (v.testBit 0).toNat, evM M1 (.bit id (o + (256 * (1 + y) + m)) (v.testBit 0))), by dsimp only; omega, hm2, by dsimp only; exact evM_ok hM1 _, hev⟩ xag (by (try dsimp only); rw [if_pos het]; simp only [treeEv, matchedEv]; exact xpkE) rfl
        · skip
          have hmg := LitAt.step (k := k) (by omega) hv hm2
          refine cF ?_
          refine JC.skip (JX.blockN ?_)
          refine JX.loop (k + 1, 2 * m + (v.testBit (k + 1)).toNat, evM M1 (.bit id (o + (256 * (1 + y) + m)) (v.testBit (k + 1)))) ⟨by dsimp only; omega, by dsimp only; omega, hm2, by dsimp only; exact evM_ok hM1 _, hev⟩ (by dsimp only; omega) (by dsimp only; rw [show 8 - (k + 1) = 7 - k by omega] at *; exact xag) (by (try dsimp only); rw [if_pos het]; exact xpkE)
      · skip
        have het : ¬ mb.testBit k = v.testBit k := fun h => he (by rw [← hy, h])
        rw [show matchedEv id o v mb (k + 1) m = .bit id (o + (256 * (1 + (mb.testBit k).toNat) + m)) (v.testBit k) :: (if mb.testBit k = v.testBit k then matchedEv id o v mb k (2 * m + (v.testBit k).toNat) else treeEv id o v k (2 * m + (v.testBit k).toNat)) from rfl, if_neg het, hy] at hev
        refine cT ?_
        refine JC.exit (JX.exit (JX.blockO rfl (JX.exit (JX.blockE ?_))))
        refine JX.cut ⟨(k, 2 * m + (v.testBit k).toNat, evM M1 (.bit id (o + (256 * (1 + y) + m)) (v.testBit k))), by dsimp only; omega, hm2, by dsimp only; exact evM_ok hM1 _, hev⟩ xag (by (try dsimp only); rw [if_neg het]; exact xpkE) rfl
    · skip
      refine cF ?_
      refine JC.skip ?_
      refine JX.cut ⟨(8, 1, M), Nat.le_refl _, by dsimp only; rw [Nat.sub_self, Nat.div_eq_of_lt hv], hM, by dsimp only; unfold litEv; rw [if_pos (by omega)]⟩ xag (by dsimp only; unfold litEv; rw [if_pos (by omega)]; exact xpkE) rfl
  · skip
    rintro ⟨⟨k0, m0, M0'⟩, hL⟩ base1
    dsimp only at hL ⊢
    refine JX.code (JC.seq (JC.block ?_))
    refine JC.loop (ι := Nat × Nat × PM) (fun i => LitAt M id o v st old i.1 i.2.1 i.2.2 (treeEv id o v i.1 i.2.1)) (fun i => [(1, .pointer (some ⟨g, 0, none⟩)), (13, .slice (some ⟨T.blk id, o, none⟩) 768 (tl - o)), (14, .int .u32 i.2.1)]) (fun i => [DecS g S i.2.2 (treeEv id o v i.1 i.2.1 ++ l), ChD T i.2.2, blk sb (.cells scs X fr), F]) (fun i => i.1) (k0, m0, M0') hL xag xpkE ?_
    rintro ⟨k, m, M1⟩ base' ⟨hk, hm, hM1, hev⟩
    dsimp only at hk hm hM1 hev ⊢
    rcases k with _ | k
    · skip
      refine JC.as (A := DecS g S M1 (treeEv id o v 0 m ++ l)) (A' := DecS g S M1 l) xpick (rfl) ?_
      have hm2 : m = 256 + v := by rw [hm, Nat.pow_zero, Nat.div_one]
      refine JC.seq (sR ?_)
      refine oM ?_
      first | refine oD (Py.lss xe ev_const) ?_ | refine oU (Py.lss xe ev_const) ?_ | refine JO.py (Py.lss xe ev_const) ?_
      refine nC ?_
      refine cF ?_
      refine JC.exit (JX.exit (JX.exit (JX.blockE (JX.code (sR ?_)))))
      refine oM ?_
      first | refine JO.py (Py.sub xe ev_const (w_u32 (by omega))) ?_ | refine JO.py (Py.sub xe ev_const (m_u32 _)) ?_
      first | refine JO.py (Py.conv cnv45_5 xe (w_u8 (by omega))) ?_ | refine JO.py (Py.conv cnv45_5 xe (m_u8 _)) ?_
      refine oA ?_
      refine nC (sR ?_)
      refine oM ?_
      refine oA ?_
      refine oC ?_
      refine nC (JC.ret ?_)
      obtain rfl : M1 = _ := hev
      refine JX.end2 (Or.inl rfl) (()) Tryz.results176 (tup2 ((xe).trans (by first | exact xval | (dsimp only; exact xval))) ((xe).trans (by first | exact xval | (dsimp only; exact xval)))) xpkE
    · skip
      obtain ⟨hm2, hm3⟩ := LitAt.step hk hv hm
      have hb1 := toNat_le (v.testBit k)
      refine JC.as (A := DecS g S M1 (treeEv id o v (k + 1) m ++ l)) (A' := DecS g S M1 (.bit id (o + m) (v.testBit k) :: (treeEv id o v k (2 * m + (v.testBit k).toNat) ++ l))) xpick (rfl) ?_
      refine JC.seq (sR ?_)
      refine oM ?_
      first | refine oD (Py.lss xe ev_const) ?_ | refine oU (Py.lss xe ev_const) ?_ | refine JO.py (Py.lss xe ev_const) ?_
      refine nC ?_
      refine cT ?_
      refine JC.skip (JX.code (JC.block (sR ?_)))
      refine oM ?_
      refine oM ?_
      refine oM ?_
      refine JO.py (Py.idxS (j := m) Tryz.underlying253 siz250 xe xe (by omega) (by omega) xmult) ?_
      refine JO.call (Evs.cons xe (Evs.cons xe Evs.nil)) (dbitT G g S hT hM1 (treeEv id o v k (2 * m + (v.testBit k).toNat) ++ l) hid (ix := o + m) (by omega) (v.testBit k)) xpkE ?_
      rintro _
      show JO _ _ _ _ _ _ _ ((73, _) :: _) _ (_ :: _ :: _ :: _)
      refine oM ?_
      refine JO.py (Py.extrI xe xix) ?_
      refine JO.py (Py.extrI xe xix) ?_
      refine oA ?_
      refine oA ?_
      refine nC (JC.seq (sR ?_))
      refine oM ?_
      first | refine JO.py (Py.neqNil Tryz.underlying70 xe rfl) ?_ | refine JO.py (Py.neqHeld Tryz.underlying70 xe rfl) ?_
      refine nC ?_
      refine cF ?_
      refine JC.skip (JX.code (JC.region ?_))
      refine oM ?_
      first | refine JO.py (Py.shl 1 2 xe ev_const rfl (by decide) (by decide) (w_u32 (by omega))) ?_ | refine JO.py (Py.shl 1 2 xe ev_const rfl (by decide) (by decide) (m_u32 _)) ?_
      refine oM ?_
      refine JO.py (Py.to (Py.orN xe xe (r_u32 (by omega)) (r_u32 (by omega)) (by decide)) (v' := .int .u32 (2 * m + (v.testBit k).toNat : Nat)) (vint (by rw [← or_bit (by omega)]; congr 2 <;> omega))) ?_
      refine oA ?_
      refine JO.nil (JX.blockN ?_)
      refine JX.loop (k, 2 * m + (v.testBit k).toNat, evM M1 (.bit id (o + m) (v.testBit k))) ⟨by dsimp only; omega, hm2, by dsimp only; exact evM_ok hM1 _, hev⟩ (by dsimp only; omega) xag xpkE
end Go.Proofs.YtfpepghmbeoanaaGreatDoor
end
