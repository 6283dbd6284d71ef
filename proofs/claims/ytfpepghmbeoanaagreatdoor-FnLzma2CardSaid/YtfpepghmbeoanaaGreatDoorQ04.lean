/-
The coder of the reference: lengths, distances, bytes.
The coder of the reference: a byte.
The coder of the reference: a distance.
The coder of the reference: small functions.
The coder of the reference: new chances.
LZMA's symbols over plain numbers.
Small functions of the reference: Little, Properties.
-/
import Derived.Test.YtfpepghmbeoanaaGreatDoorQ03
import Derived.Test.YtfpepghmbeoanaaGreatDoorQ02
set_option linter.unusedSimpArgs false
set_option linter.unusedVariables false
section
open Go Go.RowKit
namespace Go.Proofs.YtfpepghmbeoanaaGreatDoor
open Lz
theorem evs_cons {M : PM} {E : Enc} {e : Ev} {l : List Ev} : Enc.evs M E (e :: l) = Enc.evs (evM M e) (E.ev M e) l := rfl
theorem evsM_cons {M : PM} {e : Ev} {l : List Ev} : evsM M (e :: l) = evsM (evM M e) l := rfl
theorem evs_nil {M : PM} {E : Enc} : Enc.evs M E [] = E := rfl
theorem evsM_nil {M : PM} : evsM M [] = M := rfl
theorem xpkE {p : Prop} (h : p := by (try dsimp only [List.cons_append, List.nil_append, evs_cons, evsM_cons, evs_nil, evsM_nil]); exact xpicks) : p := h
/-- The row of this number, as a slice. -/
abbrev Tab.sl (T : Tab) (id : Nat) : Value := .slice (some ⟨T.blk id, 0, none⟩) (T.len id) (T.len id)
structure Lids where
  c : Nat
  l : Nat
  m : Nat
  h : Nat
def lenCells (T : Tab) (I : Lids) : Array Value := (T.sl I.c :: ((List.range 16).map fun i => T.sl (I.l + i)) ++ (((List.range 16).map fun i => T.sl (I.m + i)) ++ [T.sl I.h])).toArray
structure Lids.Ok (T : Tab) (I : Lids) : Prop where
  c : I.c ∈ T.ids ∧ T.len I.c = 2
  l : ∀ i, i < 16 → I.l + i ∈ T.ids ∧ T.len (I.l + i) = 8
  m : ∀ i, i < 16 → I.m + i ∈ T.ids ∧ T.len (I.m + i) = 8
  h : I.h ∈ T.ids ∧ T.len I.h = 256
theorem lenCells_c (T : Tab) (I : Lids) : (lenCells T I)[0]? = some (T.sl I.c) := rfl
theorem lenCells_l (T : Tab) (I : Lids) {i : Nat} (h : i < 16) : (lenCells T I)[1 + i]? = some (T.sl (I.l + i)) := by
  rw [show 1 + i = i + 1 from by omega]
  simp [lenCells, List.getElem?_append, h]
theorem lenCells_m (T : Tab) (I : Lids) {i : Nat} (h : i < 16) : (lenCells T I)[17 + i]? = some (T.sl (I.m + i)) := by
  rw [show 17 + i = (16 + i) + 1 from by omega]
  have : ¬ 16 + i < 16 := by omega
  simp [lenCells, List.getElem?_append, this, h]
theorem lenCells_h (T : Tab) (I : Lids) : (lenCells T I)[33]? = some (T.sl I.h) := rfl
def lenEv (I : Lids) (n pos : Nat) : List Ev :=
  if n < 10 then .bit I.c 0 false :: treeEv (I.l + pos) 0 (n - 2) 3 1
  else if n < 18 then .bit I.c 0 true :: .bit I.c 1 false :: treeEv (I.m + pos) 0 (n - 10) 3 1
  else .bit I.c 0 true :: .bit I.c 1 true :: treeEv I.h 0 (n - 18) 8 1
theorem lenEv_len (I : Lids) (n pos : Nat) : (lenEv I n pos).length ≤ 10 := by
  unfold lenEv
  split
  · simp [treeEv_len]
  · split <;> simp [treeEv_len]

set_option maxRecDepth 100000 in
theorem put_con (G : Gst) (g lb : Nat) (T : Tab) (hT : T.Ok) (I : Lids) (hI : I.Ok T) (M : PM) (hM : PMok M) (E : Enc) (n pos : Nat) (hE : Enc.Ok E 10) (hn : 2 ≤ n ∧ n ≤ 273) (hp : pos < 16) :
    Con Tryz.prog G 24 #[.pointer (some ⟨lb, 0, none⟩), .pointer (some ⟨g, 0, none⟩), .int .i64 (n : Int), .int .i64 (pos : Int)] [CoderA g E, Chances T M, cel lb 75 (lenCells T I)] (fun _ : Unit => .tuple #[])
      (fun _ => [CoderA g (Enc.evs M E (lenEv I n pos)), Chances T (evsM M (lenEv I n pos)), cel lb 75 (lenCells T I)]) := by
  have h1 := lenCells_c T I
  have h2 := lenCells_l T I hp
  have h3 := lenCells_m T I hp
  have h4 := lenCells_h T I
  have hc := hI.c.2
  have hl := (hI.l pos hp).2
  have hm := (hI.m pos hp).2
  have hh := hI.h.2
  have hE1 : Enc.Ok E 1 := hE.mono (by omega)
  unfold Tab.sl at h1 h2 h3 h4
  refine Con.intro Tryz.func24 rfl (by kernel_rfl) Tryz.ntmps24 (Nat.le_of_ble_eq_true rfl) ?_
  intro F
  show JC _ _ _ _ _ _ [(0, _), (1, _), (2, _), (3, _)] _ [_, _, _, _]
  refine sR ?_
  refine oM ?_
  refine JO.py (Py.sub xe ev_const wI) ?_
  refine oA ?_
  refine nC (JC.block (sR ?_))
  refine oM ?_
  first | refine oD (Py.lss xe ev_const) ?_ | refine oU (Py.lss xe ev_const) ?_ | refine JO.py (Py.lss xe ev_const) ?_
  refine oA ?_
  refine nC ?_
  unfold lenEv
  by_cases hA : n < 10
  · skip
    refine cT ?_
    refine sR ?_
    refine oM ?_
    refine oM ?_
    refine JO.py (Py.nil xe) ?_
    refine JO.py (Py.fld fld75_0 xe xoff) ?_
    refine JO.py (Py.load scal48 xe xpick xrow) ?_
    refine JO.py (Py.idxS Tryz.underlying48 siz61 xe ev_const (by omega) xidx xmult) ?_
    rw [if_pos hA]
    refine JO.call (Evs.cons xe (Evs.cons xe (Evs.cons ev_const Evs.nil))) (bitM hT hM hE1 hI.c.1 (ix := 0) (by omega) false rfl) xpkE ?_
    rintro _
    show JO _ _ _ _ _ _ _ ((41, _) :: _) _ (_ :: _ :: _ :: _)
    refine nC (JC.region ?_)
    refine oM ?_
    refine oM ?_
    refine oM ?_
    refine JO.py (Py.nil xe) ?_
    refine JO.py (Py.fld fld75_1 xe xoff) ?_
    refine JO.py (Py.idxA Tryz.underlying73 siz48 xe xe (by omega) xidx xmult) ?_
    refine JO.py (Py.load scal48 xe xpick xrow) ?_
    refine oM ?_
    refine JO.call (Evs.cons xe (Evs.cons xe (Evs.cons xe (Evs.cons ev_const Evs.nil)))) (tree_con G g T hT _ (evM_ok hM _) _ (I.l + pos) 0 (n - 2) 3 _ _ (Enc.Ok.ev (hE.mono (by omega)) hM (.bit I.c 0 false)) (by omega) (by omega) (hI.l pos hp).1 (by omega) (by omega) (by omega) (by omega) (by omega)) xpkE ?_
    rintro _
    show JO _ _ _ _ _ _ _ ((50, _) :: _) _ (_ :: _ :: _ :: _)
    refine JO.nil (JX.blockN ?_)
    refine JX.end0 (Or.inr rfl) (()) Tryz.results24 rfl xpkE
  · skip
    rw [if_neg hA]
    refine cF ?_
    refine sR ?_
    refine oM ?_
    first | refine oD (Py.lss xe ev_const) ?_ | refine oU (Py.lss xe ev_const) ?_ | refine JO.py (Py.lss xe ev_const) ?_
    refine oA ?_
    refine nC ?_
    by_cases hB : n < 18
    · skip
      rw [if_pos hB]
      refine cT ?_
      refine sR ?_
      refine oM ?_
      refine oM ?_
      refine JO.py (Py.nil xe) ?_
      refine JO.py (Py.fld fld75_0 xe xoff) ?_
      refine JO.py (Py.load scal48 xe xpick xrow) ?_
      refine JO.py (Py.idxS Tryz.underlying48 siz61 xe ev_const (by omega) xidx xmult) ?_
      refine JO.call (Evs.cons xe (Evs.cons xe (Evs.cons ev_const Evs.nil))) (bitM hT hM hE1 hI.c.1 (ix := 0) (by omega) true rfl) xpkE ?_
      rintro _
      show JO _ _ _ _ _ _ _ ((60, _) :: _) _ (_ :: _ :: _ :: _)
      refine nC (sR ?_)
      refine oM ?_
      refine oM ?_
      refine JO.py (Py.nil xe) ?_
      refine JO.py (Py.fld fld75_0 xe xoff) ?_
      refine JO.py (Py.load scal48 xe xpick xrow) ?_
      refine JO.py (Py.idxS Tryz.underlying48 siz61 xe ev_const (by omega) xidx xmult) ?_
      refine JO.call (Evs.cons xe (Evs.cons xe (Evs.cons ev_const Evs.nil))) (bitM hT (evM_ok hM _) (Enc.Ok.ev (hE.mono (by omega)) hM (.bit I.c 0 true)) hI.c.1 (ix := 1) (by omega) false rfl) xpkE ?_
      rintro _
      show JO _ _ _ _ _ _ _ ((67, _) :: _) _ (_ :: _ :: _ :: _)
      refine nC (JC.region ?_)
      refine oM ?_
      refine oM ?_
      refine oM ?_
      refine JO.py (Py.nil xe) ?_
      refine JO.py (Py.fld fld75_2 xe xoff) ?_
      refine JO.py (Py.idxA Tryz.underlying73 siz48 xe xe (by omega) xidx xmult) ?_
      refine JO.py (Py.load scal48 xe xpick xrow) ?_
      refine oM ?_
      refine JO.py (Py.sub xe ev_const wI) ?_
      refine JO.call (Evs.cons xe (Evs.cons xe (Evs.cons xe (Evs.cons ev_const Evs.nil)))) (tree_con G g T hT _ (evM_ok (evM_ok hM _) _) _ (I.m + pos) 0 (n - 10) 3 _ _ (Enc.Ok.ev (Enc.Ok.ev (hE.mono (by omega)) hM (.bit I.c 0 true)) (evM_ok hM _) (.bit I.c 1 false)) (by omega) (by omega) (hI.m pos hp).1 (by omega) (by omega) (by omega) (by omega) (by omega)) xpkE ?_
      rintro _
      show JO _ _ _ _ _ _ _ ((77, _) :: _) _ (_ :: _ :: _ :: _)
      refine JO.nil (JX.blockN ?_)
      refine JX.end0 (Or.inr rfl) (()) Tryz.results24 rfl xpkE
    · skip
      rw [if_neg hB]
      refine cF ?_
      refine sR ?_
      refine oM ?_
      refine oM ?_
      refine JO.py (Py.nil xe) ?_
      refine JO.py (Py.fld fld75_0 xe xoff) ?_
      refine JO.py (Py.load scal48 xe xpick xrow) ?_
      refine JO.py (Py.idxS Tryz.underlying48 siz61 xe ev_const (by omega) xidx xmult) ?_
      refine JO.call (Evs.cons xe (Evs.cons xe (Evs.cons ev_const Evs.nil))) (bitM hT hM hE1 hI.c.1 (ix := 0) (by omega) true rfl) xpkE ?_
      rintro _
      show JO _ _ _ _ _ _ _ ((16, _) :: _) _ (_ :: _ :: _ :: _)
      refine nC (sR ?_)
      refine oM ?_
      refine oM ?_
      refine JO.py (Py.nil xe) ?_
      refine JO.py (Py.fld fld75_0 xe xoff) ?_
      refine JO.py (Py.load scal48 xe xpick xrow) ?_
      refine JO.py (Py.idxS Tryz.underlying48 siz61 xe ev_const (by omega) xidx xmult) ?_
      refine JO.call (Evs.cons xe (Evs.cons xe (Evs.cons ev_const Evs.nil))) (bitM hT (evM_ok hM _) (Enc.Ok.ev (hE.mono (by omega)) hM (.bit I.c 0 true)) hI.c.1 (ix := 1) (by omega) true rfl) xpkE ?_
      rintro _
      show JO _ _ _ _ _ _ _ ((23, _) :: _) _ (_ :: _ :: _ :: _)
      refine nC (JC.region ?_)
      refine oM ?_
      refine oM ?_
      refine JO.py (Py.nil xe) ?_
      refine JO.py (Py.fld fld75_3 xe xoff) ?_
      refine JO.py (Py.load scal48 xe xpick xrow) ?_
      refine oM ?_
      refine JO.py (Py.sub xe ev_const wI) ?_
      refine JO.call (Evs.cons xe (Evs.cons xe (Evs.cons xe (Evs.cons ev_const Evs.nil)))) (tree_con G g T hT _ (evM_ok (evM_ok hM _) _) _ I.h 0 (n - 18) 8 _ _ (Enc.Ok.ev (Enc.Ok.ev (hE.mono (by omega)) hM (.bit I.c 0 true)) (evM_ok hM _) (.bit I.c 1 true)) (by omega) (by omega) hI.h.1 (by omega) (by omega) (by omega) (by omega) (by omega)) xpkE ?_
      rintro _
      show JO _ _ _ _ _ _ _ ((31, _) :: _) _ (_ :: _ :: _ :: _)
      refine JO.nil (JX.blockN ?_)
      refine JX.end0 (Or.inr rfl) (()) Tryz.results24 rfl xpkE
end Go.Proofs.YtfpepghmbeoanaaGreatDoor
end

section
open Go Go.RowKit
namespace Go.Proofs.YtfpepghmbeoanaaGreatDoor
open Lz
def matchedEv (id o v old : Nat) : Nat → Nat → List Ev
  | 0, _ => []
  | k + 1, m => .bit id (o + (256 * (1 + (old.testBit k).toNat) + m)) (v.testBit k) ::
      if old.testBit k = v.testBit k then matchedEv id o v old k (2 * m + (v.testBit k).toNat) else treeEv id o v k (2 * m + (v.testBit k).toNat)
theorem matchedEv_len (id o v old : Nat) : ∀ k m, (matchedEv id o v old k m).length = k
  | 0, _ => rfl
  | k + 1, m => by
    simp only [matchedEv, List.length_cons]
    split
    · rw [matchedEv_len id o v old k]
    · rw [treeEv_len]
def litEv (id o v st old : Nat) : List Ev := if st < 7 then treeEv id o v 8 1 else matchedEv id o v old 8 1
theorem litEv_len (id o v st old : Nat) : (litEv id o v st old).length = 8 := by unfold litEv; split <;> simp [treeEv_len, matchedEv_len]
theorem top_bit (v k : Nat) (h : k ≤ 7) : v * 2 ^ (7 - k) / 128 % 2 = (v.testBit k).toNat := by
  have e : (128 : Nat) = 2 ^ k * 2 ^ (7 - k) := by rw [← Nat.pow_add, show k + (7 - k) = 7 from by omega]
  rw [e, Nat.mul_div_mul_right _ _ (Nat.pow_pos (by decide)), bit_val]
theorem top_bit_int {x : Nat} {v k : Nat} (hx : x = v * 2 ^ (7 - k)) (h : k ≤ 7) : (x : Int) / 128 % 2 = ((v.testBit k).toNat : Int) := by
  rw [← top_bit v k h, hx]; simp
theorem dbl_pow {x v k : Nat} (h : k ≤ 7) (hx : x = v * 2 ^ (7 - k)) : x * 2 = v * 2 ^ (8 - k) := by
  rw [hx, Nat.mul_assoc, ← Nat.pow_succ, show (7 - k).succ = 8 - k from by omega]
theorem pow_le_256 {v k : Nat} (hv : v < 256) : v * 2 ^ (8 - k) ≤ 65280 := by
  have h1 : 2 ^ (8 - k) ≤ 2 ^ 8 := Nat.pow_le_pow_right (by decide) (by omega)
  have := Nat.mul_le_mul (show v ≤ 255 by omega) h1
  simpa using this

set_option maxRecDepth 100000 in
theorem lit_con (G : Gst) (g : Nat) (T : Tab) (hT : T.Ok) (M : PM) (hM : PMok M) (E : Enc) (id o v st len cap bb ob bl bc old : Nat) (at_ : Int) (cs : Array Value) (Tb : TypeId) (fr : Nat × Nat) (hE : Enc.Ok E 8) (hv : v < 256) (hold : old < 256) (hid : id ∈ T.ids)
    (hl : o + 768 ≤ T.len id) (hl2 : 768 ≤ len) (hst : st < 12) (hat : 7 ≤ st → 0 ≤ at_ ∧ at_ < bl ∧ cs[ob + at_.toNat]? = some (vu8 old)) :
    Con Tryz.prog G 22 #[.pointer (some ⟨g, 0, none⟩), .slice (some ⟨T.blk id, o, none⟩) len cap, .int .i64 (v : Int), .int .i64 (st : Int), .slice (some ⟨bb, ob, none⟩) bl bc, .int .i64 at_] [CoderA g E, Chances T M, blk bb (.cells cs Tb fr)] (fun _ : Unit => .tuple #[])
      (fun _ => [CoderA g (Enc.evs M E (litEv id o v st old)), Chances T (evsM M (litEv id o v st old)), blk bb (.cells cs Tb fr)]) := by
  refine Con.intro Tryz.func22 rfl (by kernel_rfl) Tryz.ntmps22 (Nat.le_of_ble_eq_true rfl) ?_
  intro F
  show JC _ _ _ _ _ _ [(0, _), (1, _), (2, _), (3, _), (4, _), (5, _)] _ [_, _, _, _]
  refine sR ?_
  refine oC ?_
  refine nC (JC.seq (sR ?_))
  refine oM ?_
  first | refine oD (Py.geq xe ev_const) ?_ | refine oU (Py.geq xe ev_const) ?_ | refine JO.py (Py.geq xe ev_const) ?_
  refine nC ?_
  refine JC.mid (ι := {i : Nat × Nat × Nat × PM × Enc // i.1 ≤ 8 ∧ 2 ^ (8 - i.1) ≤ i.2.1 ∧ i.2.1 < 2 * 2 ^ (8 - i.1) ∧ i.2.2.1 = v * 2 ^ (8 - i.1) ∧ PMok i.2.2.2.1 ∧ Enc.Ok i.2.2.2.2 i.1 ∧ Enc.evs i.2.2.2.1 i.2.2.2.2 (treeEv id o v i.1 i.2.1) = Enc.evs M E (litEv id o v st old) ∧ evsM i.2.2.2.1 (treeEv id o v i.1 i.2.1) = evsM M (litEv id o v st old)})
    (fun i => [(0, .pointer (some ⟨g, 0, none⟩)), (1, .slice (some ⟨T.blk id, o, none⟩) len cap), (2, .int .i64 i.1.2.2.1), (12, .int .i64 i.1.2.1)]) (fun i => [CoderA g i.1.2.2.2.2, Chances T i.1.2.2.2.1, blk bb (.cells cs Tb fr), F]) ?_ ?_
  · skip
    by_cases hs : st < 7
    · skip
      refine cF ?_
      refine JC.skip ?_
      refine JX.cut ⟨(8, 1, v, M, E), Nat.le_refl _, by simp, by simp, by simp, hM, hE, by unfold litEv; rw [if_pos hs], by unfold litEv; rw [if_pos hs]⟩ xag xpkE rfl
    · skip
      have hat' := hat (by omega)
      have hcell := hat'.2.2
      obtain ⟨a0, ha0⟩ : ∃ a0 : Nat, at_ = a0 := ⟨at_.toNat, by omega⟩
      subst ha0
      rw [Int.toNat_natCast] at hcell
      refine cT ?_
      refine sR ?_
      refine oM ?_
      refine oM ?_
      refine JO.py (Py.idxS Tryz.underlying22 siz5 xe xe (by omega) xidx xmult) ?_
      refine JO.py (Py.load scal5 xe xpick xrow) ?_
      first | refine JO.py (Py.conv cnv5_3 xe wI) ?_ | refine JO.py (Py.conv cnv5_3 xe rfl) ?_
      refine oA ?_
      refine nC (JC.block ?_)
      refine JC.loop (ι := Nat × Nat × Nat × Nat × PM × Enc) (fun i => i.1 ≤ 8 ∧ 2 ^ (8 - i.1) ≤ i.2.1 ∧ i.2.1 < 2 * 2 ^ (8 - i.1) ∧ i.2.2.1 = v * 2 ^ (8 - i.1) ∧ i.2.2.2.1 = old * 2 ^ (8 - i.1) ∧ PMok i.2.2.2.2.1 ∧ Enc.Ok i.2.2.2.2.2 i.1 ∧ Enc.evs i.2.2.2.2.1 i.2.2.2.2.2 (matchedEv id o v old i.1 i.2.1) = Enc.evs M E (litEv id o v st old) ∧ evsM i.2.2.2.2.1 (matchedEv id o v old i.1 i.2.1) = evsM M (litEv id o v st old))
        (fun i => [(0, .pointer (some ⟨g, 0, none⟩)), (1, .slice (some ⟨T.blk id, o, none⟩) len cap), (2, .int .i64 i.2.2.1), (12, .int .i64 i.2.1), (13, .int .i64 i.2.2.2.1)]) (fun i => [CoderA g i.2.2.2.2.2, Chances T i.2.2.2.2.1, blk bb (.cells cs Tb fr), F]) (fun i => i.1) (8, 1, v, old, M, E)
        ⟨Nat.le_refl _, by simp, by simp, by simp, by simp, hM, hE, by unfold litEv; rw [if_neg hs], by unfold litEv; rw [if_neg hs]⟩ xag xpkE ?_
      rintro ⟨k, m, x, y, M1, E1⟩ base' ⟨hk, hm1, hm2, hx, hy, hM1, hE1, hev, hev2⟩
      dsimp only at hk hm1 hm2 hx hy hM1 hE1 hev hev2 ⊢
      rcases k with _ | k
      · skip
        have hm3 : 256 ≤ m := by simpa using hm1
        refine JC.seq (sR ?_)
        refine oM ?_
        first | refine oD (Py.lss xe ev_const) ?_ | refine oU (Py.lss xe ev_const) ?_ | refine JO.py (Py.lss xe ev_const) ?_
        refine nC ?_
        refine cF ?_
        refine JC.exit (JX.exit (JX.exit (JX.blockE ?_)))
        refine JX.cut ⟨(0, m, x, M1, E1), Nat.zero_le _, hm1, hm2, hx, hM1, hE1, hev, hev2⟩ xag xpkE rfl
      · skip
        have hk7 : k ≤ 7 := by omega
        have e8 : 8 - (k + 1) = 7 - k := by omega
        rw [e8] at hm1 hm2 hx hy
        have hp7 : 2 ^ (7 - k) ≤ 2 ^ 7 := Nat.pow_le_pow_right (by decide) (by omega)
        have hp8 : 2 ^ (8 - k) = 2 ^ (7 - k) * 2 := by rw [← Nat.pow_succ, show (7 - k).succ = 8 - k from by omega]
        have hx2 := dbl_pow hk7 hx
        have hy2 := dbl_pow hk7 hy
        have hx3 := pow_le_256 (k := k) hv
        have hy3 := pow_le_256 (k := k) hold
        rw [← hx2] at hx3
        rw [← hy2] at hy3
        obtain ⟨pw, hpw⟩ : ∃ pw, 2 ^ (7 - k) = pw := ⟨_, rfl⟩
        have hxb := top_bit_int hx hk7
        have hyb := top_bit_int hy hk7
        rw [hpw] at hm1 hm2 hp7 hp8
        have hb1 : (v.testBit k).toNat ≤ 1 := by cases v.testBit k <;> simp
        have hb2 : (old.testBit k).toNat ≤ 1 := by cases old.testBit k <;> simp
        have hE1b : Enc.Ok E1 1 := hE1.mono (by omega)
        have hE2 := Enc.Ok.ev hE1 hM1 (.bit id (o + (256 * (1 + (old.testBit k).toNat) + m)) (v.testBit k))
        refine JC.seq (sR ?_)
        refine oM ?_
        first | refine oD (Py.lss xe ev_const) ?_ | refine oU (Py.lss xe ev_const) ?_ | refine JO.py (Py.lss xe ev_const) ?_
        refine nC ?_
        refine cT ?_
        refine JC.skip (JX.code (JC.block (sR ?_)))
        refine oM ?_
        refine JO.py (Py.shr 7 128 xe ev_const rfl (by decide) (by decide) (by decide)) ?_
        refine JO.py (Py.mask 1 2 xe ev_const (by decide) (by decide) (by decide) (r_i64 (by omega)) wI) ?_
        refine oM ?_
        refine JO.py (Py.shr 7 128 xe ev_const rfl (by decide) (by decide) (by decide)) ?_
        refine JO.py (Py.mask 1 2 xe ev_const (by decide) (by decide) (by decide) (r_i64 (by omega)) wI) ?_
        refine oA ?_
        refine oA ?_
        refine nC (sR ?_)
        refine oM ?_
        refine JO.py (Py.shl 1 2 xe ev_const rfl (by decide) (by decide) wI) ?_
        refine oM ?_
        refine JO.py (Py.shl 1 2 xe ev_const rfl (by decide) (by decide) wI) ?_
        refine oA ?_
        refine oA ?_
        refine nC (sR ?_)
        refine oM ?_
        refine oM ?_
        refine oM ?_
        refine JO.py (Py.add ev_const xe wI) ?_
        refine JO.py (Py.mul ev_const xe wI) ?_
        refine oM ?_
        refine JO.py (Py.add xe xe wI) ?_
        refine JO.py (Py.idxS (j := 256 * (1 + (old.testBit k).toNat) + m) Tryz.underlying48 siz61 xe xe (by omega) (by omega) xmult) ?_
        refine oM ?_
        refine JO.call (Evs.cons xe (Evs.cons xe (Evs.cons xe Evs.nil))) (bitM hT hM1 hE1b hid (ix := o + (256 * (1 + (old.testBit k).toNat) + m)) (by omega) (v.testBit k) hxb) xpkE ?_
        rintro _
        show JO _ _ _ _ _ _ _ ((45, _) :: _) _ (_ :: _ :: _ :: _)
        refine nC (sR ?_)
        refine oM ?_
        refine JO.py (Py.mul ev_const xe wI) ?_
        refine oM ?_
        refine JO.py (Py.add xe xe wI) ?_
        refine oA ?_
        refine nC (sR ?_)
        refine oM ?_
        refine oM ?_
        first | refine oD (Py.neq xe xe) ?_ | refine oU (Py.neq xe xe) ?_ | refine JO.py (Py.neq xe xe) ?_
        refine nC ?_
        have hM2 := evM_ok hM1 (.bit id (o + (256 * (1 + (old.testBit k).toNat) + m)) (v.testBit k))
        by_cases hbb : old.testBit k = v.testBit k
        · skip
          have hbb2 : (old.testBit k).toNat = (v.testBit k).toNat := by rw [hbb]
          rw [matchedEv, if_pos hbb] at hev hev2
          refine cF ?_
          refine JC.skip (JX.blockN ?_)
          refine JX.loop (k, 2 * m + (v.testBit k).toNat, x * 2, y * 2, evM M1 (.bit id (o + (256 * (1 + (old.testBit k).toNat) + m)) (v.testBit k)), Enc.ev M1 E1 (.bit id (o + (256 * (1 + (old.testBit k).toNat) + m)) (v.testBit k))) ⟨by dsimp only; omega, by dsimp only; omega, by dsimp only; omega, hx2, hy2, hM2, hE2, hev, hev2⟩ (by dsimp only; omega) xag xpkE
        · skip
          have hbb2 : (old.testBit k).toNat ≠ (v.testBit k).toNat := fun e => hbb (by revert e; cases old.testBit k <;> cases v.testBit k <;> simp)
          rw [matchedEv, if_neg hbb] at hev hev2
          refine cT ?_
          refine JC.exit (JX.blockO rfl (JX.exit (JX.blockE ?_)))
          refine JX.cut ⟨(k, 2 * m + (v.testBit k).toNat, x * 2, evM M1 (.bit id (o + (256 * (1 + (old.testBit k).toNat) + m)) (v.testBit k)), Enc.ev M1 E1 (.bit id (o + (256 * (1 + (old.testBit k).toNat) + m)) (v.testBit k))), by dsimp only; omega, by dsimp only; omega, by dsimp only; omega, hx2, hM2, hE2, hev, hev2⟩ xag xpkE rfl
  · skip
    rintro ⟨⟨k, m, x, M1, E1⟩, hk, hm1, hm2, hx, hM1, hE1, hev, hev2⟩ base'
    dsimp only at hk hm1 hm2 hx hM1 hE1 hev hev2 ⊢
    refine JX.code (JC.block ?_)
    refine JC.loop (ι := Nat × Nat × Nat × PM × Enc) (fun i => i.1 ≤ 8 ∧ 2 ^ (8 - i.1) ≤ i.2.1 ∧ i.2.1 < 2 * 2 ^ (8 - i.1) ∧ i.2.2.1 = v * 2 ^ (8 - i.1) ∧ PMok i.2.2.2.1 ∧ Enc.Ok i.2.2.2.2 i.1 ∧ Enc.evs i.2.2.2.1 i.2.2.2.2 (treeEv id o v i.1 i.2.1) = Enc.evs M E (litEv id o v st old) ∧ evsM i.2.2.2.1 (treeEv id o v i.1 i.2.1) = evsM M (litEv id o v st old))
      (fun i => [(0, .pointer (some ⟨g, 0, none⟩)), (1, .slice (some ⟨T.blk id, o, none⟩) len cap), (2, .int .i64 i.2.2.1), (12, .int .i64 i.2.1)]) (fun i => [CoderA g i.2.2.2.2, Chances T i.2.2.2.1, blk bb (.cells cs Tb fr), F]) (fun i => i.1) (k, m, x, M1, E1)
      ⟨hk, hm1, hm2, hx, hM1, hE1, hev, hev2⟩ xag xpkE ?_
    clear hk hm1 hm2 hx hM1 hE1 hev hev2 k m x M1 E1
    rintro ⟨k, m, x, M1, E1⟩ base' ⟨hk, hm1, hm2, hx, hM1, hE1, hev, hev2⟩
    dsimp only at hk hm1 hm2 hx hM1 hE1 hev hev2 ⊢
    rcases k with _ | k
    · skip
      have hm3 : 256 ≤ m := by simpa using hm1
      refine JC.seq (sR ?_)
      refine oM ?_
      first | refine oD (Py.lss xe ev_const) ?_ | refine oU (Py.lss xe ev_const) ?_ | refine JO.py (Py.lss xe ev_const) ?_
      refine nC ?_
      refine cF ?_
      refine JC.exit (JX.exit (JX.exit (JX.blockE ?_)))
      obtain rfl : E1 = _ := hev
      obtain rfl : M1 = _ := hev2
      refine JX.end0 (Or.inr rfl) (()) Tryz.results22 rfl xpkE
    · skip
      have hk7 : k ≤ 7 := by omega
      have e8 : 8 - (k + 1) = 7 - k := by omega
      rw [e8] at hm1 hm2 hx
      have hp7 : 2 ^ (7 - k) ≤ 2 ^ 7 := Nat.pow_le_pow_right (by decide) (by omega)
      have hp8 : 2 ^ (8 - k) = 2 ^ (7 - k) * 2 := by rw [← Nat.pow_succ, show (7 - k).succ = 8 - k from by omega]
      have hx2 := dbl_pow hk7 hx
      have hx3 := pow_le_256 (k := k) hv
      rw [← hx2] at hx3
      obtain ⟨pw, hpw⟩ : ∃ pw, 2 ^ (7 - k) = pw := ⟨_, rfl⟩
      have hxb := top_bit_int hx hk7
      rw [hpw] at hm1 hm2 hp7 hp8
      have hb1 : (v.testBit k).toNat ≤ 1 := by cases v.testBit k <;> simp
      have hE1b : Enc.Ok E1 1 := hE1.mono (by omega)
      have hE2 := Enc.Ok.ev hE1 hM1 (.bit id (o + m) (v.testBit k))
      have hM2 := evM_ok hM1 (.bit id (o + m) (v.testBit k))
      refine JC.seq (sR ?_)
      refine oM ?_
      first | refine oD (Py.lss xe ev_const) ?_ | refine oU (Py.lss xe ev_const) ?_ | refine JO.py (Py.lss xe ev_const) ?_
      refine nC ?_
      refine cT ?_
      refine JC.skip (JX.code (JC.block (sR ?_)))
      refine oM ?_
      refine JO.py (Py.shr 7 128 xe ev_const rfl (by decide) (by decide) (by decide)) ?_
      refine JO.py (Py.mask 1 2 xe ev_const (by decide) (by decide) (by decide) (r_i64 (by omega)) wI) ?_
      refine oA ?_
      refine nC (sR ?_)
      refine oM ?_
      refine JO.py (Py.shl 1 2 xe ev_const rfl (by decide) (by decide) wI) ?_
      refine oA ?_
      refine nC (sR ?_)
      refine oM ?_
      refine oM ?_
      refine oM ?_
      refine JO.py (Py.idxS Tryz.underlying48 siz61 xe xe (by omega) xidx xmult) ?_
      refine oM ?_
      refine JO.call (Evs.cons xe (Evs.cons xe (Evs.cons xe Evs.nil))) (bitM hT hM1 hE1b hid (ix := o + m) (by omega) (v.testBit k) hxb) xpkE ?_
      rintro _
      show JO _ _ _ _ _ _ _ ((65, _) :: _) _ (_ :: _ :: _ :: _)
      refine nC (JC.region ?_)
      refine oM ?_
      refine JO.py (Py.mul ev_const xe wI) ?_
      refine oM ?_
      refine JO.py (Py.add xe xe wI) ?_
      refine oA ?_
      refine JO.nil (JX.blockN ?_)
      refine JX.loop (k, 2 * m + (v.testBit k).toNat, x * 2, evM M1 (.bit id (o + m) (v.testBit k)), Enc.ev M1 E1 (.bit id (o + m) (v.testBit k))) ⟨by dsimp only; omega, by dsimp only; omega, by dsimp only; omega, hx2, hM2, hE2, hev, hev2⟩ (by dsimp only; omega) xag xpkE
end Go.Proofs.YtfpepghmbeoanaaGreatDoor
end

section
open Go Go.RowKit
namespace Go.Proofs.YtfpepghmbeoanaaGreatDoor
open Lz
def slotOf (d : Nat) : Nat := if d < 4 then d else 2 * d.log2 + d / 2 ^ (d.log2 - 1) % 2
def distEv (sid d : Nat) : List Ev :=
  treeEv sid 0 (slotOf d) 6 1 ++ (if d < 4 then [] else
    if slotOf d < 14 then backEv (7 + slotOf d) 0 (d % 2 ^ (d.log2 - 1)) (d.log2 - 1) 0 1
    else evenEv (d % 2 ^ (d.log2 - 1) / 16) (d.log2 - 1 - 4) ++ backEv 10 0 (d % 2 ^ (d.log2 - 1) % 16) 4 0 1)
/-- The two highest bits. -/
theorem top_two {d n : Nat} (hn : 1 ≤ n) (h1 : 2 ^ n ≤ d) (h2 : d < 2 ^ (n + 1)) : d / 2 ^ (n - 1) = 2 + d / 2 ^ (n - 1) % 2 := by
  obtain ⟨m, rfl⟩ : ∃ m, n = m + 1 := ⟨n - 1, by omega⟩
  simp only [Nat.add_sub_cancel]
  have hp : 0 < 2 ^ m := Nat.pow_pos (by decide)
  rw [Nat.pow_succ] at h1 h2
  rw [Nat.pow_succ] at h2
  have a : 2 ≤ d / 2 ^ m := (Nat.le_div_iff_mul_le hp).2 (by omega)
  have b : d / 2 ^ m < 4 := (Nat.div_lt_iff_lt_mul hp).2 (by omega)
  omega
theorem log2_facts {d : Nat} (h : 4 ≤ d) (h2 : d < 1048576) : 2 ^ d.log2 ≤ d ∧ d < 2 ^ (d.log2 + 1) ∧ 2 ≤ d.log2 ∧ d.log2 < 20 := by
  have a : 2 ^ d.log2 ≤ d := Nat.log2_self_le (by omega)
  have b : d < 2 ^ (d.log2 + 1) := Nat.lt_log2_self
  refine ⟨a, b, ?_, ?_⟩
  · rcases Nat.lt_or_ge d.log2 2 with h3 | h3
    · have : 2 ^ (d.log2 + 1) ≤ 2 ^ 2 := Nat.pow_le_pow_right (by decide) (by omega)
      omega
    · exact h3
  · rcases Nat.lt_or_ge d.log2 20 with h3 | h3
    · exact h3
    · have : 2 ^ 20 ≤ 2 ^ d.log2 := Nat.pow_le_pow_right (by decide) h3
      omega
theorem slotOf_facts {d : Nat} (h : 4 ≤ d) (h2 : d < 1048576) : slotOf d / 2 = d.log2 ∧ slotOf d % 2 = d / 2 ^ (d.log2 - 1) % 2 ∧ 4 ≤ slotOf d ∧ slotOf d < 40 ∧ (2 + slotOf d % 2) * 2 ^ (d.log2 - 1) + d % 2 ^ (d.log2 - 1) = d := by
  obtain ⟨a, b, c, e⟩ := log2_facts h h2
  have t := top_two (by omega) a b
  have hs : slotOf d = 2 * d.log2 + d / 2 ^ (d.log2 - 1) % 2 := by unfold slotOf; rw [if_neg (by omega)]
  have hm := Nat.mod_lt (d / 2 ^ (d.log2 - 1)) (show 2 > 0 by decide)
  refine ⟨by omega, by omega, by omega, by omega, ?_⟩
  rw [show slotOf d % 2 = d / 2 ^ (d.log2 - 1) % 2 by omega, ← t, Nat.mul_comm]
  exact Nat.div_add_mod _ _
theorem distEv_len (sid d : Nat) (h2 : d < 1048576) : (distEv sid d).length ≤ 30 := by
  unfold distEv
  rw [List.length_append, treeEv_len]
  split
  · simp
  · rename_i h
    obtain ⟨a, b, c, e⟩ := log2_facts (by omega) h2
    split
    · rw [backEv_len]; omega
    · rw [List.length_append, evenEv_len, backEv_len]; omega
def specCells (T : Tab) : Array Value := ((List.range 14).map fun i => if i < 4 then Value.slice none 0 0 else T.sl (7 + i)).toArray
theorem specCells_get (T : Tab) {i : Nat} (h1 : 4 ≤ i) (h2 : i < 14) : (specCells T)[i]? = some (T.sl (7 + i)) := by
  have : ¬ i < 4 := by omega
  simp [specCells, h2, this]
structure DistOk (T : Tab) (sid : Nat) : Prop where
  s : sid ∈ T.ids ∧ T.len sid = 64
  p : ∀ i, 4 ≤ i → i < 14 → 7 + i ∈ T.ids ∧ T.len (7 + i) = 2 ^ (i / 2 - 1)
  a : 10 ∈ T.ids ∧ T.len 10 = 16

set_option maxRecDepth 100000 in
theorem dist_con (G : Gst) (g : Nat) (T : Tab) (hT : T.Ok) (M : PM) (hM : PMok M) (E : Enc) (sid d : Nat) (hI : DistOk T sid) (hE : Enc.Ok E 30) (hd : d < 1048576) :
    Con Tryz.prog G 26 #[.pointer (some ⟨g, 0, none⟩), T.sl sid, .agg (specCells T), T.sl 10, .int .i64 (d : Int)] [CoderA g E, Chances T M] (fun _ : Unit => .tuple #[])
      (fun _ => [CoderA g (Enc.evs M E (distEv sid d)), Chances T (evsM M (distEv sid d))]) := by
  refine Con.intro Tryz.func26 rfl (by kernel_rfl) Tryz.ntmps26 (Nat.le_of_ble_eq_true rfl) ?_
  intro F
  show JC _ _ _ _ _ _ [(0, _), (1, _), (2, _), (3, _), (4, _)] _ [_, _, _]
  refine sR ?_
  refine JO.boxA xe ?_; intro b7
  refine nC (sR ?_)
  refine oM ?_
  refine oA ?_
  refine oC ?_
  refine nC (JC.seq (sR ?_))
  refine oM ?_
  first | refine oD (Py.geq xe ev_const) ?_ | refine oU (Py.geq xe ev_const) ?_ | refine JO.py (Py.geq xe ev_const) ?_
  refine nC ?_
  refine JC.mid (ι := Unit) (fun _ => [(0, .pointer (some ⟨g, 0, none⟩)), (1, T.sl sid), (3, T.sl 10), (4, .int .i64 (d : Int)), (7, .pointer (some ⟨b7, 0, none⟩)), (10, .int .i64 (slotOf d))]) (fun _ => [CoderA g E, Chances T M, cel b7 51 (specCells T), F]) ?_ ?_
  · skip
    by_cases h4 : d < 4
    · skip
      refine cF ?_
      refine JC.skip ?_
      have hs : slotOf d = d := by unfold slotOf; rw [if_pos h4]
      refine JX.cut () (by rw [hs]; exact xagree) xpkE rfl
    · skip
      obtain ⟨f1, f2, f3, f4⟩ := log2_facts (by omega) hd
      refine cT ?_
      refine JC.seq (JC.block ?_)
      refine JC.loop (ι := Nat) (fun n => 2 ^ n ≤ d ∧ n ≤ d.log2) (fun n => [(0, .pointer (some ⟨g, 0, none⟩)), (1, T.sl sid), (3, T.sl 10), (4, .int .i64 (d : Int)), (7, .pointer (some ⟨b7, 0, none⟩)), (11, .int .i64 (n : Int))]) (fun _ => [CoderA g E, Chances T M, cel b7 51 (specCells T), F]) (fun n => 30 - n) 0 ⟨by simp; omega, by omega⟩ xag xpkE ?_
      rintro n base' ⟨hn1, hn2⟩
      have hd0 := Nat.zero_le (d / 2 ^ (n + 1))
      have hdv := Nat.div_le_self d (2 ^ (n + 1))
      refine JC.seq (sR ?_)
      refine oM ?_
      refine oM ?_
      refine JO.py (Py.add xe ev_const wI) ?_
      refine JO.py (Py.shrN (n + 1) xe xe (by omega) (by simp only [IntKind.bits]; omega)) ?_
      by_cases hq : 2 ^ (n + 1) ≤ d
      · skip
        have hq2 : 0 < d / 2 ^ (n + 1) := Nat.div_pos hq (Nat.pow_pos (by decide))
        have hn3 : n + 1 ≤ d.log2 := (Nat.le_log2 (by omega)).2 hq
        first | refine oD (Py.gtr xe ev_const) ?_ | refine oU (Py.gtr xe ev_const) ?_ | refine JO.py (Py.gtr xe ev_const) ?_
        refine nC ?_
        refine cT ?_
        refine JC.skip (JX.code (JC.block (JC.region ?_)))
        refine oM ?_
        refine JO.py (Py.add xe ev_const wI) ?_
        refine oA ?_
        refine JO.nil (JX.blockN ?_)
        refine JX.loop (n + 1) ⟨hq, hn3⟩ (by (try dsimp only); omega) xag xpkE
      · skip
        have hq2 : d / 2 ^ (n + 1) = 0 := Nat.div_eq_of_lt (by omega)
        have hnl : d.log2 = n := (Nat.log2_eq_iff (by omega)).2 ⟨hn1, by omega⟩
        first | refine oD (Py.gtr xe ev_const) ?_ | refine oU (Py.gtr xe ev_const) ?_ | refine JO.py (Py.gtr xe ev_const) ?_
        refine nC ?_
        refine cF ?_
        refine JC.exit (JX.exit (JX.exit (JX.blockE (JX.code (JC.region ?_)))))
        refine oM ?_
        refine JO.py (Py.mul ev_const xe wI) ?_
        refine oM ?_
        refine oM ?_
        refine JO.py (Py.sub xe ev_const wI) ?_
        rw [hnl] at f3 f4
        have hd1 := Nat.zero_le (d / 2 ^ (n - 1))
        have hdv1 := Nat.div_le_self d (2 ^ (n - 1))
        have hs : slotOf d = 2 * n + d / 2 ^ (n - 1) % 2 := by unfold slotOf; rw [if_neg h4, hnl]
        refine JO.py (Py.shrN (n - 1) xe xe (by omega) (by simp only [IntKind.bits]; omega)) ?_
        refine JO.py (Py.mask 1 2 xe ev_const (by decide) (by decide) (by decide) (r_i64 (by omega)) wI) ?_
        refine JO.py (Py.add xe xe wI) ?_
        refine oA ?_
        refine JO.nil ?_
        refine JX.cut () xag xpkE rfl
  · skip
    rintro ⟨⟩ base'
    refine JX.code (sR ?_)
    refine oM ?_
    refine oM ?_
    refine oM ?_
    have hs40 : slotOf d < 40 := by
      by_cases h4 : d < 4
      · unfold slotOf; rw [if_pos h4]; omega
      · exact (slotOf_facts (by omega) hd).2.2.2.1
    have hs64 := hI.s.2
    refine JO.call (Evs.cons xe (Evs.cons xe (Evs.cons xe (Evs.cons ev_const Evs.nil)))) (tree_con G g T hT M hM E sid 0 (slotOf d) 6 _ _ (hE.mono (by omega)) (by omega) (by omega) hI.s.1 (by omega) (by omega) (by omega) rfl rfl) xpkE ?_
    rintro _
    show JO _ _ _ _ _ _ _ ((35, _) :: _) _ (_ :: _ :: _ :: _)
    have hM1 := evsM_ok hM (treeEv sid 0 (slotOf d) 6 1)
    have hE1 : Enc.Ok (Enc.evs M E (treeEv sid 0 (slotOf d) 6 1)) 24 := Enc.Ok.evs (by rw [treeEv_len]; exact hE) hM
    refine nC (JC.seq (sR ?_))
    refine oM ?_
    first | refine oD (Py.lss xe ev_const) ?_ | refine oU (Py.lss xe ev_const) ?_ | refine JO.py (Py.lss xe ev_const) ?_
    refine nC ?_
    by_cases h4 : d < 4
    · skip
      have hs : slotOf d = d := by unfold slotOf; rw [if_pos h4]
      have hev : distEv sid d = treeEv sid 0 (slotOf d) 6 1 := by unfold distEv; rw [if_pos h4, List.append_nil]
      refine cT ?_
      refine JC.ret (JX.ret ?_)
      rw [hev]
      refine JX.end0 (Or.inl rfl) (()) Tryz.results26 rfl xpkE
    · skip
      obtain ⟨s1, s2, s3, s4, s5⟩ := slotOf_facts (by omega) hd
      obtain ⟨f1, f2, f3, f4⟩ := log2_facts (by omega) hd
      refine cF ?_
      refine JC.skip (JX.code (sR ?_))
      refine oM ?_
      refine JO.py (Py.quo xe ev_const (by omega) (by omega) wI) ?_
      refine JO.py (Py.sub xe ev_const wI) ?_
      refine oA ?_
      refine nC (sR ?_)
      refine oM ?_
      refine oM ?_
      refine JO.py (Py.mask 1 2 xe ev_const (by decide) (by decide) (by decide) (r_i64 (by omega)) wI) ?_
      refine JO.py (Py.add ev_const xe wI) ?_
      refine oM ?_
      have hb : slotOf d / 2 - 1 = d.log2 - 1 := by omega
      have hle : (2 + slotOf d % 2) * 2 ^ (d.log2 - 1) ≤ d := by omega
      have he : (2 + (slotOf d : Int) % 2) * 2 ^ (d.log2 - 1) = (((2 + slotOf d % 2) * 2 ^ (d.log2 - 1) : Nat) : Int) := by push_cast; rfl
      refine JO.py (Py.to (Py.shlN (d.log2 - 1) (c := ((2 + slotOf d % 2) * 2 ^ (d.log2 - 1) : Nat)) xe xe (by omega) (by simp only [IntKind.bits]; omega) (by rw [he]; exact w_i64 (by omega))) rfl) ?_
      refine JO.py (Py.to (Py.sub xe xe wI) (v' := .int .i64 ((d % 2 ^ (d.log2 - 1) : Nat) : Int)) (vint (by omega))) ?_
      refine oA ?_
      refine nC (JC.seq (sR ?_))
      refine oM ?_
      first | refine oD (Py.lss xe ev_const) ?_ | refine oU (Py.lss xe ev_const) ?_ | refine JO.py (Py.lss xe ev_const) ?_
      refine nC ?_
      have hr0 := Nat.zero_le (d % 2 ^ (d.log2 - 1))
      have hr1 : d % 2 ^ (d.log2 - 1) ≤ d := Nat.mod_le _ _
      by_cases h14 : slotOf d < 14
      · skip
        have hev : distEv sid d = treeEv sid 0 (slotOf d) 6 1 ++ backEv (7 + slotOf d) 0 (d % 2 ^ (d.log2 - 1)) (d.log2 - 1) 0 1 := by unfold distEv; rw [if_neg h4, if_pos h14]
        have hsp := specCells_get T s3 h14
        have hlen := (hI.p (slotOf d) s3 h14).2
        rw [hb] at hlen
        have hl5 : d.log2 ≤ 6 := by omega
        have hpow : 2 ^ (d.log2 - 1) ≤ 2 ^ 5 := Nat.pow_le_pow_right (by decide) (by omega)
        refine cT ?_
        refine sR ?_
        refine oM ?_
        refine oM ?_
        refine JO.py (Py.idxA Tryz.underlying51 siz48 xe xe (by omega) xidx xmult) ?_
        refine JO.py (Py.load scal48 xe xpick xrow) ?_
        refine oM ?_
        refine oM ?_
        refine JO.call (Evs.cons xe (Evs.cons xe (Evs.cons xe (Evs.cons xe Evs.nil)))) (back_con G g T hT _ hM1 _ (7 + slotOf d) 0 (d % 2 ^ (d.log2 - 1)) (d.log2 - 1) _ _ (hE1.mono (by omega)) (by omega) (by omega) (hI.p (slotOf d) s3 h14).1 (by omega) (by omega) (by omega) rfl (by omega)) xpkE ?_
        rintro _
        show JO _ _ _ _ _ _ _ ((56, _) :: _) _ (_ :: _ :: _ :: _)
        refine nC (JC.ret (JX.ret ?_))
        rw [hev, Enc.evs_append, evsM_append]
        refine JX.end0 (Or.inl rfl) (()) Tryz.results26 rfl xpkE
      · skip
        have hev : distEv sid d = treeEv sid 0 (slotOf d) 6 1 ++ (evenEv (d % 2 ^ (d.log2 - 1) / 16) (d.log2 - 1 - 4) ++ backEv 10 0 (d % 2 ^ (d.log2 - 1) % 16) 4 0 1) := by unfold distEv; rw [if_neg h4, if_neg h14]
        have hal := hI.a.2
        refine cF ?_
        refine JC.skip (JX.code (sR ?_))
        refine oM ?_
        refine oM ?_
        refine JO.py (Py.shr 4 16 xe ev_const rfl (by decide) (by decide) (by decide)) ?_
        refine oM ?_
        refine JO.py (Py.sub xe ev_const wI) ?_
        refine JO.call (Evs.cons xe (Evs.cons xe (Evs.cons xe Evs.nil))) (even_con G g (d % 2 ^ (d.log2 - 1) / 16) (d.log2 - 1 - 4) _ (hE1.mono (by omega)) (by omega) (by omega) (M := evsM M (treeEv sid 0 (slotOf d) 6 1)) hM1 (by omega) (by omega)) xpkE ?_
        rintro _
        show JO _ _ _ _ _ _ _ ((62, _) :: _) _ (_ :: _ :: _)
        have hM2 : evsM (evsM M (treeEv sid 0 (slotOf d) 6 1)) (evenEv (d % 2 ^ (d.log2 - 1) / 16) (d.log2 - 1 - 4)) = evsM M (treeEv sid 0 (slotOf d) 6 1) := by
          generalize d % 2 ^ (d.log2 - 1) / 16 = a
          generalize d.log2 - 1 - 4 = b
          induction b with
          | zero => rfl
          | succ b ih => exact ih
        have hE2 : Enc.Ok (Enc.evs (evsM M (treeEv sid 0 (slotOf d) 6 1)) (Enc.evs M E (treeEv sid 0 (slotOf d) 6 1)) (evenEv (d % 2 ^ (d.log2 - 1) / 16) (d.log2 - 1 - 4))) 4 := Enc.Ok.evs (hE1.mono (by rw [evenEv_len]; omega)) hM1
        refine nC (JC.region ?_)
        refine oM ?_
        refine oM ?_
        refine oM ?_
        refine JO.py (Py.mask 4 16 xe ev_const (by decide) (by decide) (by decide) (r_i64 (by omega)) wI) ?_
        refine JO.call (Evs.cons xe (Evs.cons xe (Evs.cons xe (Evs.cons ev_const Evs.nil)))) (back_con G g T hT _ hM1 _ 10 0 (d % 2 ^ (d.log2 - 1) % 16) 4 _ _ hE2 (by omega) (by omega) hI.a.1 (by omega) (by omega) (by omega) (by omega) (by omega)) xpkE ?_
        rintro _
        show JO _ _ _ _ _ _ _ ((67, _) :: _) _ (_ :: _ :: _ :: _)
        refine JO.nil ?_
        rw [hev, Enc.evs_append, evsM_append, Enc.evs_append, evsM_append, hM2]
        refine JX.end0 (Or.inr rfl) (()) Tryz.results26 rfl xpkE
end Go.Proofs.YtfpepghmbeoanaaGreatDoor
end

section
open Go Go.RowKit
namespace Go.Proofs.YtfpepghmbeoanaaGreatDoor
open Lz
theorem after_con (G : Gst) (st lo hi : Int) : Con Tryz.prog G 25 #[.int .i64 st, .int .i64 lo, .int .i64 hi] [] (fun _ : Unit => .int .i64 (if st < 7 then lo else hi)) (fun _ => []) := by
  refine Con.intro Tryz.func25 rfl (by kernel_rfl) Tryz.ntmps25 (Nat.le_of_ble_eq_true rfl) ?_
  intro F
  show JC _ _ _ _ _ _ [(0, _), (1, _), (2, _)] _ [_]
  by_cases h : st < 7
  · skip
    rw [if_pos h]
    refine sR ?_
    refine oC ?_
    refine nC (JC.seq (sR ?_))
    refine oM ?_
    first | refine oD (Py.lss xe ev_const) ?_ | refine oU (Py.lss xe ev_const) ?_ | refine JO.py (Py.lss xe ev_const) ?_
    refine nC ?_
    refine cT ?_
    refine sR ?_
    refine oM ?_
    refine oA ?_
    refine nC (JC.ret (JX.ret ?_))
    refine JX.end1 (Or.inl rfl) (()) Tryz.results25 ((xe).trans (by first | exact xval | (dsimp only; exact xval))) xpkE
  · skip
    rw [if_neg h]
    refine sR ?_
    refine oC ?_
    refine nC (JC.seq (sR ?_))
    refine oM ?_
    first | refine oD (Py.lss xe ev_const) ?_ | refine oU (Py.lss xe ev_const) ?_ | refine JO.py (Py.lss xe ev_const) ?_
    refine nC ?_
    refine cF ?_
    refine JC.skip (JX.code (sR ?_))
    refine oM ?_
    refine oA ?_
    refine nC (JC.ret ?_)
    refine JX.end1 (Or.inl rfl) (()) Tryz.results25 ((xe).trans (by first | exact xval | (dsimp only; exact xval))) xpkE
def litSt (st : Nat) : Nat := if st < 4 then 0 else if st < 10 then st - 3 else st - 6
theorem afterLit_con (G : Gst) (st : Nat) (h12 : st < 12) : Con Tryz.prog G 23 #[.int .i64 (st : Int)] [] (fun _ : Unit => .int .i64 (litSt st : Nat)) (fun _ => []) := by
  unfold litSt
  refine Con.intro Tryz.func23 rfl (by kernel_rfl) Tryz.ntmps23 (Nat.le_of_ble_eq_true rfl) ?_
  intro F
  show JC _ _ _ _ _ _ [(0, _)] _ [_]
  by_cases h : st < 4
  · skip
    rw [if_pos h]
    refine sR ?_
    refine oC ?_
    refine nC (JC.seq (JC.block (sR ?_)))
    refine oM ?_
    first | refine oD (Py.lss xe ev_const) ?_ | refine oU (Py.lss xe ev_const) ?_ | refine JO.py (Py.lss xe ev_const) ?_
    refine oA ?_
    refine nC ?_
    refine cT ?_
    refine sR ?_
    refine oC ?_
    refine nC (JC.ret (JX.blockR (JX.ret ?_)))
    refine JX.end1 (Or.inl rfl) (()) Tryz.results23 ((xe).trans (by first | exact xval | (dsimp only; exact xval))) xpkE
  · skip
    rw [if_neg h]
    by_cases h2 : st < 10
    · skip
      rw [if_pos h2]
      refine sR ?_
      refine oC ?_
      refine nC (JC.seq (JC.block (sR ?_)))
      refine oM ?_
      first | refine oD (Py.lss xe ev_const) ?_ | refine oU (Py.lss xe ev_const) ?_ | refine JO.py (Py.lss xe ev_const) ?_
      refine oA ?_
      refine nC ?_
      refine cF ?_
      refine sR ?_
      refine oM ?_
      first | refine oD (Py.lss xe ev_const) ?_ | refine oU (Py.lss xe ev_const) ?_ | refine JO.py (Py.lss xe ev_const) ?_
      refine oA ?_
      refine nC ?_
      refine cT ?_
      refine sR ?_
      refine oM ?_
      refine JO.py (Py.sub xe ev_const wI) ?_
      refine oA ?_
      refine nC (JC.ret (JX.blockR (JX.ret ?_)))
      refine JX.end1 (Or.inl rfl) (()) Tryz.results23 ((xe).trans (by first | exact xval | (dsimp only; exact xval))) xpkE
    · skip
      rw [if_neg h2]
      refine sR ?_
      refine oC ?_
      refine nC (JC.seq (JC.block (sR ?_)))
      refine oM ?_
      first | refine oD (Py.lss xe ev_const) ?_ | refine oU (Py.lss xe ev_const) ?_ | refine JO.py (Py.lss xe ev_const) ?_
      refine oA ?_
      refine nC ?_
      refine cF ?_
      refine sR ?_
      refine oM ?_
      first | refine oD (Py.lss xe ev_const) ?_ | refine oU (Py.lss xe ev_const) ?_ | refine JO.py (Py.lss xe ev_const) ?_
      refine oA ?_
      refine nC ?_
      refine cF ?_
      refine JC.skip (JX.blockN (JX.code (sR ?_)))
      refine oM ?_
      refine JO.py (Py.sub xe ev_const wI) ?_
      refine oA ?_
      refine nC (JC.ret ?_)
      refine JX.end1 (Or.inl rfl) (()) Tryz.results23 ((xe).trans (by first | exact xval | (dsimp only; exact xval))) xpkE
/-- n bytes from i on are those that stand dd ahead. -/
structure EqR (bs : List Nat) (i dd n : Nat) : Prop where
  le : n ≤ 273
  dist : n = 0 ∨ dd ≤ i
  fit : i + n ≤ bs.length
  same : ∀ j, j < n → bs.getD (i + j) 0 = bs.getD (i + j - dd) 0
/-- A row of bytes that is only read. -/
def RdOk (cs : Array Value) (ob : Nat) (bs : List Nat) : Prop := ∀ i, i < bs.length → cs[ob + i]? = some (vu8 (bs.getD i 0)) ∧ bs.getD i 0 < 256
set_option maxRecDepth 100000 in
theorem equal_con (G : Gst) (bb ob bl bc : Nat) (cs : Array Value) (Tb : TypeId) (fr : Nat × Nat) (bs : List Nat) (hb : RdOk cs ob bs) (hbl : bs.length = bl) (hbl2 : bl ≤ 1000000) (i dd : Nat) (hi : i ≤ bl) (hdd : 1 ≤ dd) {di : Int} (hdi : di = dd) (hdd2 : dd ≤ 1000000000) :
    Con Tryz.prog G 19 #[.slice (some ⟨bb, ob, none⟩) bl bc, .int .i64 i, .int .i64 di] [blk bb (.cells cs Tb fr)] (fun n : {n : Nat // EqR bs i dd n} => .int .i64 n.1) (fun _ => [blk bb (.cells cs Tb fr)]) := by
  subst hdi
  refine Con.intro Tryz.func19 rfl (by kernel_rfl) Tryz.ntmps19 (Nat.le_of_ble_eq_true rfl) ?_
  intro F
  show JC _ _ _ _ _ _ [(0, _), (1, _), (2, _)] _ [_, _]
  refine sR ?_
  refine oC ?_
  refine nC (sR ?_)
  refine oC ?_
  refine nC (JC.seq (JC.block ?_))
  refine JC.loop (ι := Nat) (fun n => EqR bs i dd n) (fun n => [(0, .slice (some ⟨bb, ob, none⟩) bl bc), (1, .int .i64 i), (2, .int .i64 dd), (7, .int .i64 n)]) (fun _ => [blk bb (.cells cs Tb fr), F]) (fun n => 300 - n) 0 ⟨by omega, .inl rfl, by omega, fun j hj => by omega⟩ xag xpkE ?_
  rintro n base' hn
  have hn1 := hn.le
  have hn3 := hn.fit
  by_cases c1 : dd ≤ i
  case neg =>
    refine JC.seq (JC.seq ?_)
    refine JC.regionD mixed (by kernel_rfl) ?_
    refine JD.py (Py.move xe) ?_
    refine JD.py (Py.move xe) ?_
    first | refine JD.py (Py.dec (Py.geq xe xe) (by omega)) ?_ | refine JD.py (Py.undec (Py.geq xe xe) (by omega)) ?_ | refine JD.py (Py.geq xe xe) ?_
    refine JD.py (Py.move xe) ?_
    first | (refine JD.go rfl (Lk.ev (v := .bool true) xlk rfl) ?_; (refine JD.py (Py.move xe) ?_)) | refine JD.skipS rfl (Lk.ev (v := .bool false) xlk rfl) ?_
    first | (refine JD.go rfl (Lk.ev (v := .bool true) xlk rfl) ?_; (refine JD.py (Py.move xe) ?_)) | refine JD.skipS rfl (Lk.ev (v := .bool false) xlk rfl) ?_
    first | (refine JD.go rfl (Lk.ev (v := .bool true) xlk rfl) ?_; (refine JD.py (Py.add xe xe wI) ?_)) | refine JD.skipS rfl (Lk.ev (v := .bool false) xlk rfl) ?_
    first | (refine JD.go rfl (Lk.ev (v := .bool true) xlk rfl) ?_; (refine JD.py (Py.move xe) ?_)) | refine JD.skipS rfl (Lk.ev (v := .bool false) xlk rfl) ?_
    first | (refine JD.go rfl (Lk.ev (v := .bool true) xlk rfl) ?_; (refine JD.py (Py.lenS Tryz.underlying22 xe) ?_)) | refine JD.skipS rfl (Lk.ev (v := .bool false) xlk rfl) ?_
    first | (refine JD.go rfl (Lk.ev (v := .bool true) xlk rfl) ?_; (first | refine JD.py (Py.dec (Py.lss xe xe) (by omega)) ?_ | refine JD.py (Py.undec (Py.lss xe xe) (by omega)) ?_ | refine JD.py (Py.lss xe xe) ?_)) | refine JD.skipS rfl (Lk.ev (v := .bool false) xlk rfl) ?_
    first | refine JD.py (Py.pickT xe xe) ?_ | refine JD.py (Py.pickF xe ev_const) ?_
    refine JD.py (Py.move xe) ?_
    first | (refine JD.go rfl (Lk.ev (v := .bool true) xlk rfl) ?_; (refine JD.py (Py.move xe) ?_)) | refine JD.skipS rfl (Lk.ev (v := .bool false) xlk rfl) ?_
    first | (refine JD.go rfl (Lk.ev (v := .bool true) xlk rfl) ?_; (first | refine JD.py (Py.dec (Py.lss xe ev_const) (by omega)) ?_ | refine JD.py (Py.undec (Py.lss xe ev_const) (by omega)) ?_ | refine JD.py (Py.lss xe ev_const) ?_)) | refine JD.skipS rfl (Lk.ev (v := .bool false) xlk rfl) ?_
    first | refine JD.py (Py.pickT xe xe) ?_ | refine JD.py (Py.pickF xe ev_const) ?_
    refine JD.py (Py.move xe) ?_
    first | (refine JD.go rfl (Lk.ev (v := .bool true) xlk rfl) ?_; (refine JD.py (Py.move xe) ?_)) | refine JD.skipS rfl (Lk.ev (v := .bool false) xlk rfl) ?_
    first | (refine JD.go rfl (Lk.ev (v := .bool true) xlk rfl) ?_; (refine JD.py (Py.move xe) ?_)) | refine JD.skipS rfl (Lk.ev (v := .bool false) xlk rfl) ?_
    first | (refine JD.go rfl (Lk.ev (v := .bool true) xlk rfl) ?_; (refine JD.py (Py.move xe) ?_)) | refine JD.skipS rfl (Lk.ev (v := .bool false) xlk rfl) ?_
    first | (refine JD.go rfl (Lk.ev (v := .bool true) xlk rfl) ?_; (refine JD.py (Py.add xe xe wI) ?_)) | refine JD.skipS rfl (Lk.ev (v := .bool false) xlk rfl) ?_
    first | (refine JD.go rfl (Lk.ev (v := .bool true) xlk rfl) ?_; (refine JD.py (Py.idxS Tryz.underlying22 siz5 xe xe (by omega) xidx xmult) ?_)) | refine JD.skipS rfl (Lk.ev (v := .bool false) xlk rfl) ?_
    first | (refine JD.go rfl (Lk.ev (v := .bool true) xlk rfl) ?_; (refine JD.py (Py.load scal5 xe xpick xrow) ?_)) | refine JD.skipS rfl (Lk.ev (v := .bool false) xlk rfl) ?_
    first | (refine JD.go rfl (Lk.ev (v := .bool true) xlk rfl) ?_; (refine JD.py (Py.move xe) ?_)) | refine JD.skipS rfl (Lk.ev (v := .bool false) xlk rfl) ?_
    first | (refine JD.go rfl (Lk.ev (v := .bool true) xlk rfl) ?_; (refine JD.py (Py.move xe) ?_)) | refine JD.skipS rfl (Lk.ev (v := .bool false) xlk rfl) ?_
    first | (refine JD.go rfl (Lk.ev (v := .bool true) xlk rfl) ?_; (refine JD.py (Py.move xe) ?_)) | refine JD.skipS rfl (Lk.ev (v := .bool false) xlk rfl) ?_
    first | (refine JD.go rfl (Lk.ev (v := .bool true) xlk rfl) ?_; (refine JD.py (Py.add xe xe wI) ?_)) | refine JD.skipS rfl (Lk.ev (v := .bool false) xlk rfl) ?_
    first | (refine JD.go rfl (Lk.ev (v := .bool true) xlk rfl) ?_; (refine JD.py (Py.move xe) ?_)) | refine JD.skipS rfl (Lk.ev (v := .bool false) xlk rfl) ?_
    first | (refine JD.go rfl (Lk.ev (v := .bool true) xlk rfl) ?_; (refine JD.py (Py.sub xe xe wI) ?_)) | refine JD.skipS rfl (Lk.ev (v := .bool false) xlk rfl) ?_
    first | (refine JD.go rfl (Lk.ev (v := .bool true) xlk rfl) ?_; (refine JD.py (Py.idxS Tryz.underlying22 siz5 xe xe (by omega) xidx xmult) ?_)) | refine JD.skipS rfl (Lk.ev (v := .bool false) xlk rfl) ?_
    first | (refine JD.go rfl (Lk.ev (v := .bool true) xlk rfl) ?_; (refine JD.py (Py.load scal5 xe xpick xrow) ?_)) | refine JD.skipS rfl (Lk.ev (v := .bool false) xlk rfl) ?_
    first | (refine JD.go rfl (Lk.ev (v := .bool true) xlk rfl) ?_; (first | refine JD.py (Py.dec (Py.eql xe xe) (by omega)) ?_ | refine JD.py (Py.undec (Py.eql xe xe) (by omega)) ?_ | refine JD.py (Py.eql xe xe) ?_)) | refine JD.skipS rfl (Lk.ev (v := .bool false) xlk rfl) ?_
    first | refine JD.py (Py.pickT xe xe) ?_ | refine JD.py (Py.pickF xe ev_const) ?_
    refine JD.nilN (JX.code ?_)
    refine cF ?_
    refine JC.exit (JX.exit (JX.exit (JX.blockE (JX.code (sR ?_)))))
    refine oM ?_
    refine oA ?_
    refine nC (JC.ret ?_)
    refine JX.end1 (Or.inl rfl) (⟨n, hn⟩) Tryz.results19 ((xe).trans (by first | exact xval | (dsimp only; exact xval))) xpkE
  case pos =>
  by_cases c2 : i + n < bl
  case neg =>
    refine JC.seq (JC.seq ?_)
    refine JC.regionD mixed (by kernel_rfl) ?_
    refine JD.py (Py.move xe) ?_
    refine JD.py (Py.move xe) ?_
    first | refine JD.py (Py.dec (Py.geq xe xe) (by omega)) ?_ | refine JD.py (Py.undec (Py.geq xe xe) (by omega)) ?_ | refine JD.py (Py.geq xe xe) ?_
    refine JD.py (Py.move xe) ?_
    first | (refine JD.go rfl (Lk.ev (v := .bool true) xlk rfl) ?_; (refine JD.py (Py.move xe) ?_)) | refine JD.skipS rfl (Lk.ev (v := .bool false) xlk rfl) ?_
    first | (refine JD.go rfl (Lk.ev (v := .bool true) xlk rfl) ?_; (refine JD.py (Py.move xe) ?_)) | refine JD.skipS rfl (Lk.ev (v := .bool false) xlk rfl) ?_
    first | (refine JD.go rfl (Lk.ev (v := .bool true) xlk rfl) ?_; (refine JD.py (Py.add xe xe wI) ?_)) | refine JD.skipS rfl (Lk.ev (v := .bool false) xlk rfl) ?_
    first | (refine JD.go rfl (Lk.ev (v := .bool true) xlk rfl) ?_; (refine JD.py (Py.move xe) ?_)) | refine JD.skipS rfl (Lk.ev (v := .bool false) xlk rfl) ?_
    first | (refine JD.go rfl (Lk.ev (v := .bool true) xlk rfl) ?_; (refine JD.py (Py.lenS Tryz.underlying22 xe) ?_)) | refine JD.skipS rfl (Lk.ev (v := .bool false) xlk rfl) ?_
    first | (refine JD.go rfl (Lk.ev (v := .bool true) xlk rfl) ?_; (first | refine JD.py (Py.dec (Py.lss xe xe) (by omega)) ?_ | refine JD.py (Py.undec (Py.lss xe xe) (by omega)) ?_ | refine JD.py (Py.lss xe xe) ?_)) | refine JD.skipS rfl (Lk.ev (v := .bool false) xlk rfl) ?_
    first | refine JD.py (Py.pickT xe xe) ?_ | refine JD.py (Py.pickF xe ev_const) ?_
    refine JD.py (Py.move xe) ?_
    first | (refine JD.go rfl (Lk.ev (v := .bool true) xlk rfl) ?_; (refine JD.py (Py.move xe) ?_)) | refine JD.skipS rfl (Lk.ev (v := .bool false) xlk rfl) ?_
    first | (refine JD.go rfl (Lk.ev (v := .bool true) xlk rfl) ?_; (first | refine JD.py (Py.dec (Py.lss xe ev_const) (by omega)) ?_ | refine JD.py (Py.undec (Py.lss xe ev_const) (by omega)) ?_ | refine JD.py (Py.lss xe ev_const) ?_)) | refine JD.skipS rfl (Lk.ev (v := .bool false) xlk rfl) ?_
    first | refine JD.py (Py.pickT xe xe) ?_ | refine JD.py (Py.pickF xe ev_const) ?_
    refine JD.py (Py.move xe) ?_
    first | (refine JD.go rfl (Lk.ev (v := .bool true) xlk rfl) ?_; (refine JD.py (Py.move xe) ?_)) | refine JD.skipS rfl (Lk.ev (v := .bool false) xlk rfl) ?_
    first | (refine JD.go rfl (Lk.ev (v := .bool true) xlk rfl) ?_; (refine JD.py (Py.move xe) ?_)) | refine JD.skipS rfl (Lk.ev (v := .bool false) xlk rfl) ?_
    first | (refine JD.go rfl (Lk.ev (v := .bool true) xlk rfl) ?_; (refine JD.py (Py.move xe) ?_)) | refine JD.skipS rfl (Lk.ev (v := .bool false) xlk rfl) ?_
    first | (refine JD.go rfl (Lk.ev (v := .bool true) xlk rfl) ?_; (refine JD.py (Py.add xe xe wI) ?_)) | refine JD.skipS rfl (Lk.ev (v := .bool false) xlk rfl) ?_
    first | (refine JD.go rfl (Lk.ev (v := .bool true) xlk rfl) ?_; (refine JD.py (Py.idxS Tryz.underlying22 siz5 xe xe (by omega) xidx xmult) ?_)) | refine JD.skipS rfl (Lk.ev (v := .bool false) xlk rfl) ?_
    first | (refine JD.go rfl (Lk.ev (v := .bool true) xlk rfl) ?_; (refine JD.py (Py.load scal5 xe xpick xrow) ?_)) | refine JD.skipS rfl (Lk.ev (v := .bool false) xlk rfl) ?_
    first | (refine JD.go rfl (Lk.ev (v := .bool true) xlk rfl) ?_; (refine JD.py (Py.move xe) ?_)) | refine JD.skipS rfl (Lk.ev (v := .bool false) xlk rfl) ?_
    first | (refine JD.go rfl (Lk.ev (v := .bool true) xlk rfl) ?_; (refine JD.py (Py.move xe) ?_)) | refine JD.skipS rfl (Lk.ev (v := .bool false) xlk rfl) ?_
    first | (refine JD.go rfl (Lk.ev (v := .bool true) xlk rfl) ?_; (refine JD.py (Py.move xe) ?_)) | refine JD.skipS rfl (Lk.ev (v := .bool false) xlk rfl) ?_
    first | (refine JD.go rfl (Lk.ev (v := .bool true) xlk rfl) ?_; (refine JD.py (Py.add xe xe wI) ?_)) | refine JD.skipS rfl (Lk.ev (v := .bool false) xlk rfl) ?_
    first | (refine JD.go rfl (Lk.ev (v := .bool true) xlk rfl) ?_; (refine JD.py (Py.move xe) ?_)) | refine JD.skipS rfl (Lk.ev (v := .bool false) xlk rfl) ?_
    first | (refine JD.go rfl (Lk.ev (v := .bool true) xlk rfl) ?_; (refine JD.py (Py.sub xe xe wI) ?_)) | refine JD.skipS rfl (Lk.ev (v := .bool false) xlk rfl) ?_
    first | (refine JD.go rfl (Lk.ev (v := .bool true) xlk rfl) ?_; (refine JD.py (Py.idxS Tryz.underlying22 siz5 xe xe (by omega) xidx xmult) ?_)) | refine JD.skipS rfl (Lk.ev (v := .bool false) xlk rfl) ?_
    first | (refine JD.go rfl (Lk.ev (v := .bool true) xlk rfl) ?_; (refine JD.py (Py.load scal5 xe xpick xrow) ?_)) | refine JD.skipS rfl (Lk.ev (v := .bool false) xlk rfl) ?_
    first | (refine JD.go rfl (Lk.ev (v := .bool true) xlk rfl) ?_; (first | refine JD.py (Py.dec (Py.eql xe xe) (by omega)) ?_ | refine JD.py (Py.undec (Py.eql xe xe) (by omega)) ?_ | refine JD.py (Py.eql xe xe) ?_)) | refine JD.skipS rfl (Lk.ev (v := .bool false) xlk rfl) ?_
    first | refine JD.py (Py.pickT xe xe) ?_ | refine JD.py (Py.pickF xe ev_const) ?_
    refine JD.nilN (JX.code ?_)
    refine cF ?_
    refine JC.exit (JX.exit (JX.exit (JX.blockE (JX.code (sR ?_)))))
    refine oM ?_
    refine oA ?_
    refine nC (JC.ret ?_)
    refine JX.end1 (Or.inl rfl) (⟨n, hn⟩) Tryz.results19 ((xe).trans (by first | exact xval | (dsimp only; exact xval))) xpkE
  case pos =>
  by_cases c3 : n < 273
  case neg =>
    refine JC.seq (JC.seq ?_)
    refine JC.regionD mixed (by kernel_rfl) ?_
    refine JD.py (Py.move xe) ?_
    refine JD.py (Py.move xe) ?_
    first | refine JD.py (Py.dec (Py.geq xe xe) (by omega)) ?_ | refine JD.py (Py.undec (Py.geq xe xe) (by omega)) ?_ | refine JD.py (Py.geq xe xe) ?_
    refine JD.py (Py.move xe) ?_
    first | (refine JD.go rfl (Lk.ev (v := .bool true) xlk rfl) ?_; (refine JD.py (Py.move xe) ?_)) | refine JD.skipS rfl (Lk.ev (v := .bool false) xlk rfl) ?_
    first | (refine JD.go rfl (Lk.ev (v := .bool true) xlk rfl) ?_; (refine JD.py (Py.move xe) ?_)) | refine JD.skipS rfl (Lk.ev (v := .bool false) xlk rfl) ?_
    first | (refine JD.go rfl (Lk.ev (v := .bool true) xlk rfl) ?_; (refine JD.py (Py.add xe xe wI) ?_)) | refine JD.skipS rfl (Lk.ev (v := .bool false) xlk rfl) ?_
    first | (refine JD.go rfl (Lk.ev (v := .bool true) xlk rfl) ?_; (refine JD.py (Py.move xe) ?_)) | refine JD.skipS rfl (Lk.ev (v := .bool false) xlk rfl) ?_
    first | (refine JD.go rfl (Lk.ev (v := .bool true) xlk rfl) ?_; (refine JD.py (Py.lenS Tryz.underlying22 xe) ?_)) | refine JD.skipS rfl (Lk.ev (v := .bool false) xlk rfl) ?_
    first | (refine JD.go rfl (Lk.ev (v := .bool true) xlk rfl) ?_; (first | refine JD.py (Py.dec (Py.lss xe xe) (by omega)) ?_ | refine JD.py (Py.undec (Py.lss xe xe) (by omega)) ?_ | refine JD.py (Py.lss xe xe) ?_)) | refine JD.skipS rfl (Lk.ev (v := .bool false) xlk rfl) ?_
    first | refine JD.py (Py.pickT xe xe) ?_ | refine JD.py (Py.pickF xe ev_const) ?_
    refine JD.py (Py.move xe) ?_
    first | (refine JD.go rfl (Lk.ev (v := .bool true) xlk rfl) ?_; (refine JD.py (Py.move xe) ?_)) | refine JD.skipS rfl (Lk.ev (v := .bool false) xlk rfl) ?_
    first | (refine JD.go rfl (Lk.ev (v := .bool true) xlk rfl) ?_; (first | refine JD.py (Py.dec (Py.lss xe ev_const) (by omega)) ?_ | refine JD.py (Py.undec (Py.lss xe ev_const) (by omega)) ?_ | refine JD.py (Py.lss xe ev_const) ?_)) | refine JD.skipS rfl (Lk.ev (v := .bool false) xlk rfl) ?_
    first | refine JD.py (Py.pickT xe xe) ?_ | refine JD.py (Py.pickF xe ev_const) ?_
    refine JD.py (Py.move xe) ?_
    first | (refine JD.go rfl (Lk.ev (v := .bool true) xlk rfl) ?_; (refine JD.py (Py.move xe) ?_)) | refine JD.skipS rfl (Lk.ev (v := .bool false) xlk rfl) ?_
    first | (refine JD.go rfl (Lk.ev (v := .bool true) xlk rfl) ?_; (refine JD.py (Py.move xe) ?_)) | refine JD.skipS rfl (Lk.ev (v := .bool false) xlk rfl) ?_
    first | (refine JD.go rfl (Lk.ev (v := .bool true) xlk rfl) ?_; (refine JD.py (Py.move xe) ?_)) | refine JD.skipS rfl (Lk.ev (v := .bool false) xlk rfl) ?_
    first | (refine JD.go rfl (Lk.ev (v := .bool true) xlk rfl) ?_; (refine JD.py (Py.add xe xe wI) ?_)) | refine JD.skipS rfl (Lk.ev (v := .bool false) xlk rfl) ?_
    first | (refine JD.go rfl (Lk.ev (v := .bool true) xlk rfl) ?_; (refine JD.py (Py.idxS Tryz.underlying22 siz5 xe xe (by omega) xidx xmult) ?_)) | refine JD.skipS rfl (Lk.ev (v := .bool false) xlk rfl) ?_
    first | (refine JD.go rfl (Lk.ev (v := .bool true) xlk rfl) ?_; (refine JD.py (Py.load scal5 xe xpick xrow) ?_)) | refine JD.skipS rfl (Lk.ev (v := .bool false) xlk rfl) ?_
    first | (refine JD.go rfl (Lk.ev (v := .bool true) xlk rfl) ?_; (refine JD.py (Py.move xe) ?_)) | refine JD.skipS rfl (Lk.ev (v := .bool false) xlk rfl) ?_
    first | (refine JD.go rfl (Lk.ev (v := .bool true) xlk rfl) ?_; (refine JD.py (Py.move xe) ?_)) | refine JD.skipS rfl (Lk.ev (v := .bool false) xlk rfl) ?_
    first | (refine JD.go rfl (Lk.ev (v := .bool true) xlk rfl) ?_; (refine JD.py (Py.move xe) ?_)) | refine JD.skipS rfl (Lk.ev (v := .bool false) xlk rfl) ?_
    first | (refine JD.go rfl (Lk.ev (v := .bool true) xlk rfl) ?_; (refine JD.py (Py.add xe xe wI) ?_)) | refine JD.skipS rfl (Lk.ev (v := .bool false) xlk rfl) ?_
    first | (refine JD.go rfl (Lk.ev (v := .bool true) xlk rfl) ?_; (refine JD.py (Py.move xe) ?_)) | refine JD.skipS rfl (Lk.ev (v := .bool false) xlk rfl) ?_
    first | (refine JD.go rfl (Lk.ev (v := .bool true) xlk rfl) ?_; (refine JD.py (Py.sub xe xe wI) ?_)) | refine JD.skipS rfl (Lk.ev (v := .bool false) xlk rfl) ?_
    first | (refine JD.go rfl (Lk.ev (v := .bool true) xlk rfl) ?_; (refine JD.py (Py.idxS Tryz.underlying22 siz5 xe xe (by omega) xidx xmult) ?_)) | refine JD.skipS rfl (Lk.ev (v := .bool false) xlk rfl) ?_
    first | (refine JD.go rfl (Lk.ev (v := .bool true) xlk rfl) ?_; (refine JD.py (Py.load scal5 xe xpick xrow) ?_)) | refine JD.skipS rfl (Lk.ev (v := .bool false) xlk rfl) ?_
    first | (refine JD.go rfl (Lk.ev (v := .bool true) xlk rfl) ?_; (first | refine JD.py (Py.dec (Py.eql xe xe) (by omega)) ?_ | refine JD.py (Py.undec (Py.eql xe xe) (by omega)) ?_ | refine JD.py (Py.eql xe xe) ?_)) | refine JD.skipS rfl (Lk.ev (v := .bool false) xlk rfl) ?_
    first | refine JD.py (Py.pickT xe xe) ?_ | refine JD.py (Py.pickF xe ev_const) ?_
    refine JD.nilN (JX.code ?_)
    refine cF ?_
    refine JC.exit (JX.exit (JX.exit (JX.blockE (JX.code (sR ?_)))))
    refine oM ?_
    refine oA ?_
    refine nC (JC.ret ?_)
    refine JX.end1 (Or.inl rfl) (⟨n, hn⟩) Tryz.results19 ((xe).trans (by first | exact xval | (dsimp only; exact xval))) xpkE
  case pos =>
  have r1 := (hb (i + n) (by omega)).1
  have r2 := (hb (i + n - dd) (by omega)).1
  by_cases c4 : bs.getD (i + n) 0 = bs.getD (i + n - dd) 0
  · skip
    refine JC.seq (JC.seq ?_)
    refine JC.regionD mixed (by kernel_rfl) ?_
    refine JD.py (Py.move xe) ?_
    refine JD.py (Py.move xe) ?_
    first | refine JD.py (Py.dec (Py.geq xe xe) (by omega)) ?_ | refine JD.py (Py.undec (Py.geq xe xe) (by omega)) ?_ | refine JD.py (Py.geq xe xe) ?_
    refine JD.py (Py.move xe) ?_
    first | (refine JD.go rfl (Lk.ev (v := .bool true) xlk rfl) ?_; (refine JD.py (Py.move xe) ?_)) | refine JD.skipS rfl (Lk.ev (v := .bool false) xlk rfl) ?_
    first | (refine JD.go rfl (Lk.ev (v := .bool true) xlk rfl) ?_; (refine JD.py (Py.move xe) ?_)) | refine JD.skipS rfl (Lk.ev (v := .bool false) xlk rfl) ?_
    first | (refine JD.go rfl (Lk.ev (v := .bool true) xlk rfl) ?_; (refine JD.py (Py.add xe xe wI) ?_)) | refine JD.skipS rfl (Lk.ev (v := .bool false) xlk rfl) ?_
    first | (refine JD.go rfl (Lk.ev (v := .bool true) xlk rfl) ?_; (refine JD.py (Py.move xe) ?_)) | refine JD.skipS rfl (Lk.ev (v := .bool false) xlk rfl) ?_
    first | (refine JD.go rfl (Lk.ev (v := .bool true) xlk rfl) ?_; (refine JD.py (Py.lenS Tryz.underlying22 xe) ?_)) | refine JD.skipS rfl (Lk.ev (v := .bool false) xlk rfl) ?_
    first | (refine JD.go rfl (Lk.ev (v := .bool true) xlk rfl) ?_; (first | refine JD.py (Py.dec (Py.lss xe xe) (by omega)) ?_ | refine JD.py (Py.undec (Py.lss xe xe) (by omega)) ?_ | refine JD.py (Py.lss xe xe) ?_)) | refine JD.skipS rfl (Lk.ev (v := .bool false) xlk rfl) ?_
    first | refine JD.py (Py.pickT xe xe) ?_ | refine JD.py (Py.pickF xe ev_const) ?_
    refine JD.py (Py.move xe) ?_
    first | (refine JD.go rfl (Lk.ev (v := .bool true) xlk rfl) ?_; (refine JD.py (Py.move xe) ?_)) | refine JD.skipS rfl (Lk.ev (v := .bool false) xlk rfl) ?_
    first | (refine JD.go rfl (Lk.ev (v := .bool true) xlk rfl) ?_; (first | refine JD.py (Py.dec (Py.lss xe ev_const) (by omega)) ?_ | refine JD.py (Py.undec (Py.lss xe ev_const) (by omega)) ?_ | refine JD.py (Py.lss xe ev_const) ?_)) | refine JD.skipS rfl (Lk.ev (v := .bool false) xlk rfl) ?_
    first | refine JD.py (Py.pickT xe xe) ?_ | refine JD.py (Py.pickF xe ev_const) ?_
    refine JD.py (Py.move xe) ?_
    first | (refine JD.go rfl (Lk.ev (v := .bool true) xlk rfl) ?_; (refine JD.py (Py.move xe) ?_)) | refine JD.skipS rfl (Lk.ev (v := .bool false) xlk rfl) ?_
    first | (refine JD.go rfl (Lk.ev (v := .bool true) xlk rfl) ?_; (refine JD.py (Py.move xe) ?_)) | refine JD.skipS rfl (Lk.ev (v := .bool false) xlk rfl) ?_
    first | (refine JD.go rfl (Lk.ev (v := .bool true) xlk rfl) ?_; (refine JD.py (Py.move xe) ?_)) | refine JD.skipS rfl (Lk.ev (v := .bool false) xlk rfl) ?_
    first | (refine JD.go rfl (Lk.ev (v := .bool true) xlk rfl) ?_; (refine JD.py (Py.add xe xe wI) ?_)) | refine JD.skipS rfl (Lk.ev (v := .bool false) xlk rfl) ?_
    first | (refine JD.go rfl (Lk.ev (v := .bool true) xlk rfl) ?_; (refine JD.py (Py.idxS Tryz.underlying22 siz5 xe xe (by omega) xidx xmult) ?_)) | refine JD.skipS rfl (Lk.ev (v := .bool false) xlk rfl) ?_
    first | (refine JD.go rfl (Lk.ev (v := .bool true) xlk rfl) ?_; (refine JD.py (Py.load scal5 xe xpick xrow) ?_)) | refine JD.skipS rfl (Lk.ev (v := .bool false) xlk rfl) ?_
    first | (refine JD.go rfl (Lk.ev (v := .bool true) xlk rfl) ?_; (refine JD.py (Py.move xe) ?_)) | refine JD.skipS rfl (Lk.ev (v := .bool false) xlk rfl) ?_
    first | (refine JD.go rfl (Lk.ev (v := .bool true) xlk rfl) ?_; (refine JD.py (Py.move xe) ?_)) | refine JD.skipS rfl (Lk.ev (v := .bool false) xlk rfl) ?_
    first | (refine JD.go rfl (Lk.ev (v := .bool true) xlk rfl) ?_; (refine JD.py (Py.move xe) ?_)) | refine JD.skipS rfl (Lk.ev (v := .bool false) xlk rfl) ?_
    first | (refine JD.go rfl (Lk.ev (v := .bool true) xlk rfl) ?_; (refine JD.py (Py.add xe xe wI) ?_)) | refine JD.skipS rfl (Lk.ev (v := .bool false) xlk rfl) ?_
    first | (refine JD.go rfl (Lk.ev (v := .bool true) xlk rfl) ?_; (refine JD.py (Py.move xe) ?_)) | refine JD.skipS rfl (Lk.ev (v := .bool false) xlk rfl) ?_
    first | (refine JD.go rfl (Lk.ev (v := .bool true) xlk rfl) ?_; (refine JD.py (Py.sub xe xe wI) ?_)) | refine JD.skipS rfl (Lk.ev (v := .bool false) xlk rfl) ?_
    refine JD.go rfl (Lk.ev (v := .bool true) xlk rfl) ?_
    refine JD.py (Py.idxS (j := i + n - dd) Tryz.underlying22 siz5 xe xe (by omega) (by omega) xmult) ?_
    first | (refine JD.go rfl (Lk.ev (v := .bool true) xlk rfl) ?_; (refine JD.py (Py.load scal5 xe xpick xrow) ?_)) | refine JD.skipS rfl (Lk.ev (v := .bool false) xlk rfl) ?_
    first | (refine JD.go rfl (Lk.ev (v := .bool true) xlk rfl) ?_; (first | refine JD.py (Py.dec (Py.eql xe xe) (by omega)) ?_ | refine JD.py (Py.undec (Py.eql xe xe) (by omega)) ?_ | refine JD.py (Py.eql xe xe) ?_)) | refine JD.skipS rfl (Lk.ev (v := .bool false) xlk rfl) ?_
    first | refine JD.py (Py.pickT xe xe) ?_ | refine JD.py (Py.pickF xe ev_const) ?_
    refine JD.nilN (JX.code ?_)
    refine cT ?_
    refine JC.skip (JX.code (JC.block (JC.region ?_)))
    refine oM ?_
    refine JO.py (Py.add xe ev_const wI) ?_
    refine oA ?_
    refine JO.nil (JX.blockN ?_)
    refine JX.loop (n + 1) ⟨by omega, .inr c1, by omega, fun j hj => ?_⟩ (by omega) xag xpkE
    rcases Nat.lt_or_ge j n with h | h
    · exact hn.same j h
    · obtain rfl : j = n := by omega
      exact c4
  · skip
    refine JC.seq (JC.seq ?_)
    refine JC.regionD mixed (by kernel_rfl) ?_
    refine JD.py (Py.move xe) ?_
    refine JD.py (Py.move xe) ?_
    first | refine JD.py (Py.dec (Py.geq xe xe) (by omega)) ?_ | refine JD.py (Py.undec (Py.geq xe xe) (by omega)) ?_ | refine JD.py (Py.geq xe xe) ?_
    refine JD.py (Py.move xe) ?_
    first | (refine JD.go rfl (Lk.ev (v := .bool true) xlk rfl) ?_; (refine JD.py (Py.move xe) ?_)) | refine JD.skipS rfl (Lk.ev (v := .bool false) xlk rfl) ?_
    first | (refine JD.go rfl (Lk.ev (v := .bool true) xlk rfl) ?_; (refine JD.py (Py.move xe) ?_)) | refine JD.skipS rfl (Lk.ev (v := .bool false) xlk rfl) ?_
    first | (refine JD.go rfl (Lk.ev (v := .bool true) xlk rfl) ?_; (refine JD.py (Py.add xe xe wI) ?_)) | refine JD.skipS rfl (Lk.ev (v := .bool false) xlk rfl) ?_
    first | (refine JD.go rfl (Lk.ev (v := .bool true) xlk rfl) ?_; (refine JD.py (Py.move xe) ?_)) | refine JD.skipS rfl (Lk.ev (v := .bool false) xlk rfl) ?_
    first | (refine JD.go rfl (Lk.ev (v := .bool true) xlk rfl) ?_; (refine JD.py (Py.lenS Tryz.underlying22 xe) ?_)) | refine JD.skipS rfl (Lk.ev (v := .bool false) xlk rfl) ?_
    first | (refine JD.go rfl (Lk.ev (v := .bool true) xlk rfl) ?_; (first | refine JD.py (Py.dec (Py.lss xe xe) (by omega)) ?_ | refine JD.py (Py.undec (Py.lss xe xe) (by omega)) ?_ | refine JD.py (Py.lss xe xe) ?_)) | refine JD.skipS rfl (Lk.ev (v := .bool false) xlk rfl) ?_
    first | refine JD.py (Py.pickT xe xe) ?_ | refine JD.py (Py.pickF xe ev_const) ?_
    refine JD.py (Py.move xe) ?_
    first | (refine JD.go rfl (Lk.ev (v := .bool true) xlk rfl) ?_; (refine JD.py (Py.move xe) ?_)) | refine JD.skipS rfl (Lk.ev (v := .bool false) xlk rfl) ?_
    first | (refine JD.go rfl (Lk.ev (v := .bool true) xlk rfl) ?_; (first | refine JD.py (Py.dec (Py.lss xe ev_const) (by omega)) ?_ | refine JD.py (Py.undec (Py.lss xe ev_const) (by omega)) ?_ | refine JD.py (Py.lss xe ev_const) ?_)) | refine JD.skipS rfl (Lk.ev (v := .bool false) xlk rfl) ?_
    first | refine JD.py (Py.pickT xe xe) ?_ | refine JD.py (Py.pickF xe ev_const) ?_
    refine JD.py (Py.move xe) ?_
    first | (refine JD.go rfl (Lk.ev (v := .bool true) xlk rfl) ?_; (refine JD.py (Py.move xe) ?_)) | refine JD.skipS rfl (Lk.ev (v := .bool false) xlk rfl) ?_
    first | (refine JD.go rfl (Lk.ev (v := .bool true) xlk rfl) ?_; (refine JD.py (Py.move xe) ?_)) | refine JD.skipS rfl (Lk.ev (v := .bool false) xlk rfl) ?_
    first | (refine JD.go rfl (Lk.ev (v := .bool true) xlk rfl) ?_; (refine JD.py (Py.move xe) ?_)) | refine JD.skipS rfl (Lk.ev (v := .bool false) xlk rfl) ?_
    first | (refine JD.go rfl (Lk.ev (v := .bool true) xlk rfl) ?_; (refine JD.py (Py.add xe xe wI) ?_)) | refine JD.skipS rfl (Lk.ev (v := .bool false) xlk rfl) ?_
    first | (refine JD.go rfl (Lk.ev (v := .bool true) xlk rfl) ?_; (refine JD.py (Py.idxS Tryz.underlying22 siz5 xe xe (by omega) xidx xmult) ?_)) | refine JD.skipS rfl (Lk.ev (v := .bool false) xlk rfl) ?_
    first | (refine JD.go rfl (Lk.ev (v := .bool true) xlk rfl) ?_; (refine JD.py (Py.load scal5 xe xpick xrow) ?_)) | refine JD.skipS rfl (Lk.ev (v := .bool false) xlk rfl) ?_
    first | (refine JD.go rfl (Lk.ev (v := .bool true) xlk rfl) ?_; (refine JD.py (Py.move xe) ?_)) | refine JD.skipS rfl (Lk.ev (v := .bool false) xlk rfl) ?_
    first | (refine JD.go rfl (Lk.ev (v := .bool true) xlk rfl) ?_; (refine JD.py (Py.move xe) ?_)) | refine JD.skipS rfl (Lk.ev (v := .bool false) xlk rfl) ?_
    first | (refine JD.go rfl (Lk.ev (v := .bool true) xlk rfl) ?_; (refine JD.py (Py.move xe) ?_)) | refine JD.skipS rfl (Lk.ev (v := .bool false) xlk rfl) ?_
    first | (refine JD.go rfl (Lk.ev (v := .bool true) xlk rfl) ?_; (refine JD.py (Py.add xe xe wI) ?_)) | refine JD.skipS rfl (Lk.ev (v := .bool false) xlk rfl) ?_
    first | (refine JD.go rfl (Lk.ev (v := .bool true) xlk rfl) ?_; (refine JD.py (Py.move xe) ?_)) | refine JD.skipS rfl (Lk.ev (v := .bool false) xlk rfl) ?_
    first | (refine JD.go rfl (Lk.ev (v := .bool true) xlk rfl) ?_; (refine JD.py (Py.sub xe xe wI) ?_)) | refine JD.skipS rfl (Lk.ev (v := .bool false) xlk rfl) ?_
    refine JD.go rfl (Lk.ev (v := .bool true) xlk rfl) ?_
    refine JD.py (Py.idxS (j := i + n - dd) Tryz.underlying22 siz5 xe xe (by omega) (by omega) xmult) ?_
    first | (refine JD.go rfl (Lk.ev (v := .bool true) xlk rfl) ?_; (refine JD.py (Py.load scal5 xe xpick xrow) ?_)) | refine JD.skipS rfl (Lk.ev (v := .bool false) xlk rfl) ?_
    first | (refine JD.go rfl (Lk.ev (v := .bool true) xlk rfl) ?_; (first | refine JD.py (Py.dec (Py.eql xe xe) (by omega)) ?_ | refine JD.py (Py.undec (Py.eql xe xe) (by omega)) ?_ | refine JD.py (Py.eql xe xe) ?_)) | refine JD.skipS rfl (Lk.ev (v := .bool false) xlk rfl) ?_
    first | refine JD.py (Py.pickT xe xe) ?_ | refine JD.py (Py.pickF xe ev_const) ?_
    refine JD.nilN (JX.code ?_)
    refine cF ?_
    refine JC.exit (JX.exit (JX.exit (JX.blockE (JX.code (sR ?_)))))
    refine oM ?_
    refine oA ?_
    refine nC (JC.ret ?_)
    refine JX.end1 (Or.inl rfl) (⟨n, hn⟩) Tryz.results19 ((xe).trans (by first | exact xval | (dsimp only; exact xval))) xpkE

/-- Three bytes as a number. -/
def keyN (bs : List Nat) (i : Nat) : Nat := (bs.getD i 0 ||| bs.getD (i + 1) 0 * 256) ||| bs.getD (i + 2) 0 * 65536
set_option maxRecDepth 100000 in
theorem key_con (G : Gst) (bb ob bl bc : Nat) (cs : Array Value) (Tb : TypeId) (fr : Nat × Nat) (bs : List Nat) (hb : RdOk cs ob bs) (hbl : bs.length = bl) (hbl2 : bl ≤ 1000000) (i : Nat) (hi : i + 3 ≤ bl) :
    Con Tryz.prog G 20 #[.slice (some ⟨bb, ob, none⟩) bl bc, .int .i64 i] [blk bb (.cells cs Tb fr)] (fun n : Nat => .int .i64 (n : Int)) (fun _ => [blk bb (.cells cs Tb fr)]) := by
  refine Con.intro Tryz.func20 rfl (by kernel_rfl) Tryz.ntmps20 (Nat.le_of_ble_eq_true rfl) ?_
  intro F
  show JC _ _ _ _ _ _ [(0, _), (1, _)] _ [_, _]
  obtain ⟨r1, q1⟩ := hb i (by omega)
  obtain ⟨r2, q2⟩ := hb (i + 1) (by omega)
  obtain ⟨r3, q3⟩ := hb (i + 2) (by omega)
  generalize bs.getD i 0 = x1 at *
  generalize bs.getD (i + 1) 0 = x2 at *
  generalize bs.getD (i + 2) 0 = x3 at *
  have hor := Nat.or_lt_two_pow (x := (x1 : Int).toNat) (y := ((x2 : Int) * 256).toNat) (n := 16) (by omega) (by omega)
  refine sR ?_
  refine oC ?_
  refine nC (JC.seq ?_)
  refine JC.regionD mixed (by kernel_rfl) ?_
  refine JD.py (Py.move xe) ?_
  refine JD.py (Py.move xe) ?_
  refine JD.py (Py.idxS Tryz.underlying22 siz5 xe xe (by omega) xidx xmult) ?_
  refine JD.py (Py.load scal5 xe xpick xrow) ?_
  first | refine JD.py (Py.conv cnv5_3 xe wI) ?_ | refine JD.py (Py.conv cnv5_3 xe rfl) ?_
  refine JD.py (Py.move xe) ?_
  refine JD.py (Py.move xe) ?_
  refine JD.py (Py.add xe ev_const wI) ?_
  refine JD.py (Py.idxS Tryz.underlying22 siz5 xe xe (by omega) xidx xmult) ?_
  refine JD.py (Py.load scal5 xe xpick xrow) ?_
  first | refine JD.py (Py.conv cnv5_3 xe wI) ?_ | refine JD.py (Py.conv cnv5_3 xe rfl) ?_
  refine JD.py (Py.shl 8 256 xe ev_const rfl (by decide) (by decide) wI) ?_
  refine JD.py (Py.orS xe xe (by omega) (by omega)) ?_
  refine JD.py (Py.move xe) ?_
  refine JD.py (Py.move xe) ?_
  refine JD.py (Py.add xe ev_const wI) ?_
  refine JD.py (Py.idxS Tryz.underlying22 siz5 xe xe (by omega) xidx xmult) ?_
  refine JD.py (Py.load scal5 xe xpick xrow) ?_
  first | refine JD.py (Py.conv cnv5_3 xe wI) ?_ | refine JD.py (Py.conv cnv5_3 xe rfl) ?_
  refine JD.py (Py.shl 16 65536 xe ev_const rfl (by decide) (by decide) wI) ?_
  refine JD.py (Py.orS xe xe (by omega) (by omega)) ?_
  refine JD.py (Py.assign xe) ?_
  refine JD.nilN (JX.code (JC.ret ?_))
  refine JX.end1 (Or.inl rfl) (_) Tryz.results20 ((xe).trans (by first | exact xval | (dsimp only; exact xval))) xpkE
end Go.Proofs.YtfpepghmbeoanaaGreatDoor
end

section
open Go Go.RowKit
namespace Go.Proofs.YtfpepghmbeoanaaGreatDoor
open Lz
theorem chs_congr {f g : Nat → Nat} {n : Nat} (h : ∀ j, j < n → f j = g j) : chs f n = chs g n := by
  apply Array.ext_getElem?
  intro i
  simp only [chs, Array.getElem?_ofFn]
  split
  · rename_i hi; rw [h i hi]
  · rfl
theorem chs_new (n : Nat) : Array.replicate n (Value.int .u16 0) = chs (fun j => if j < 0 then 1024 else 0) n := by
  apply Array.ext_getElem?
  intro i
  simp only [chs, Array.getElem?_replicate, Array.getElem?_ofFn]
  by_cases h : i < n <;> simp [h]
theorem chs_half (n i : Nat) : (chs (fun j => if j < i then 1024 else 0) n).setIfInBounds i (.int .u16 1024) = chs (fun j => if j < i + 1 then 1024 else 0) n := by
  refine (chs_set _ n i 1024).trans (chs_congr fun j _ => ?_)
  by_cases h1 : j = i
  · subst h1; simp
  · by_cases h2 : j < i
    · have : j < i + 1 := by omega
      simp [h1, h2, this]
    · have : ¬ j < i + 1 := by omega
      simp [h1, h2, this]
abbrev half : Nat → Nat := fun _ => 1024
set_option maxRecDepth 100000 in
theorem halves_con (G : Gst) (n : Nat) (hn : n ≤ 10000000) {ni : Int} (hni : ni = (n : Int)) :
    Con Tryz.prog G 17 #[.int .i64 ni] [] (fun b : Nat => .slice (some ⟨b, 0, none⟩) n n) (fun b => [cel b 61 (chs half n)]) := by
  subst hni
  refine Con.intro Tryz.func17 rfl (by kernel_rfl) Tryz.ntmps17 (Nat.le_of_ble_eq_true rfl) ?_
  intro F
  show JC _ _ _ _ _ _ [(0, _)] _ [_]
  refine sR ?_
  refine oC ?_
  refine nC (sR ?_)
  refine oM ?_
  refine JO.mkslice Tryz.underlying48 elm61 xe xe xidx xidx (by omega) (by omega) (by omega) ?_; intro b6
  refine oA ?_
  refine nC (JC.seq (sR ?_))
  refine oM ?_
  refine JO.py (Py.lenS Tryz.underlying48 xe) ?_
  refine JO.py (Py.move ev_const) ?_
  refine nC (JC.block ?_)
  refine JC.as (A := cel b6 61 _) (A' := cel b6 61 (chs (fun j => if j < 0 then 1024 else 0) n)) xpick (cel_eq (chs_new n)) ?_
  refine JC.loop (ι := Nat) (fun i => i ≤ n) (fun i => [(3, .slice (some ⟨b6, 0, none⟩) n n), (8, .int .i64 n), (9, .int .i64 i)]) (fun i => [cel b6 61 (chs (fun j => if j < i then 1024 else 0) n), F]) (fun i => n - i) 0 (by omega) xag xpkE ?_
  rintro i base' hi
  by_cases h : i < n
  · skip
    have hsz : i < (chs (fun j => if j < i then 1024 else 0) n).size := by rw [chs_size]; exact h
    refine sR ?_
    first | refine oD (Py.lss xe xe) ?_ | refine oU (Py.lss xe xe) ?_ | refine JO.py (Py.lss xe xe) ?_
    refine nC (JC.seq ?_)
    refine cT ?_
    refine JC.skip (JX.code (JC.seq (JC.block (sR ?_))))
    refine oM ?_
    refine oA ?_
    refine nC (JC.region ?_)
    refine oM ?_
    refine oM ?_
    refine JO.py (Py.idxS Tryz.underlying48 siz61 xe xe (by omega) xidx xmult) ?_
    refine JO.store siz61 xe ev_const (by first | rfl | assumption) xpick xsize xnorm ?_
    refine JO.nil (JX.blockN (JX.code (JC.region ?_)))
    refine JO.py (Py.add xe ev_const wI) ?_
    refine oM ?_
    refine JO.nil ?_
    refine JX.as (A := cel b6 61 _) (A' := cel b6 61 (chs (fun j => if j < i + 1 then 1024 else 0) n)) xpick (cel_eq (chs_half n i)) ?_
    refine JX.loop (i + 1) (by omega) (by omega) xag xpkE
  · skip
    refine sR ?_
    first | refine oD (Py.lss xe xe) ?_ | refine oU (Py.lss xe xe) ?_ | refine JO.py (Py.lss xe xe) ?_
    refine nC (JC.seq ?_)
    refine cF ?_
    refine JC.exit (JX.exit (JX.exit (JX.blockE (JX.code (sR ?_)))))
    refine oM ?_
    refine oA ?_
    refine nC (JC.ret ?_)
    refine JX.as (A := cel b6 61 _) (A' := cel b6 61 (chs half n)) xpick (cel_eq (chs_congr fun j hj => by rw [if_pos (by omega)])) ?_
    refine JX.end1 (Or.inl rfl) (b6) Tryz.results17 ((xe).trans (by first | exact xval | (dsimp only; exact xval))) xpkE

/-- A row more. -/
def Tab.add (T : Tab) (id b n : Nat) : Tab := { ids := id :: T.ids, blk := fun j => if j = id then b else T.blk j, len := fun j => if j = id then n else T.len j }
theorem Tab.add_row {T : Tab} {id b n : Nat} {M : PM} : (T.add id b n).row M id = cel b 61 (chs (M id) n) := by simp [Tab.row, Tab.add]
theorem grow {G : Gst} {w : World} {T : Tab} {M : PM} {r : List Asn} {id b n : Nat} {f : Nat → Nat} (hf : f = M id) (hid : id ∉ T.ids) (hw : Sat G w (cel b 61 (chs f n) :: Chances T M :: r)) : Sat G w (Chances (T.add id b n) M :: r) :=
  hw.of fun hs => by
    subst hf
    refine stars_flat.2 ?_
    have e : (T.add id b n).ids.map ((T.add id b n).row M) = cel b 61 (chs (M id) n) :: T.ids.map (T.row M) := by
      show (T.add id b n).row M id :: T.ids.map ((T.add id b n).row M) = _
      rw [Tab.add_row]
      congr 1
      apply List.map_congr_left
      intro j hj
      have : j ≠ id := fun e => hid (e ▸ hj)
      simp [Tab.row, Tab.add, this]
    rw [e]
    exact stars_tail (fun h hh => stars_flat.1 hh) hs
/-- T' knows what T knows. -/
structure Ext (T T' : Tab) : Prop where
  ids : ∀ id ∈ T.ids, id ∈ T'.ids
  blk : ∀ id ∈ T.ids, T'.blk id = T.blk id
  len : ∀ id ∈ T.ids, T'.len id = T.len id
theorem Ext.refl (T : Tab) : Ext T T := ⟨fun _ h => h, fun _ _ => rfl, fun _ _ => rfl⟩
theorem Ext.trans {T T' T'' : Tab} (h : Ext T T') (k : Ext T' T'') : Ext T T'' :=
  ⟨fun id hi => k.ids id (h.ids id hi), fun id hi => (k.blk id (h.ids id hi)).trans (h.blk id hi), fun id hi => (k.len id (h.ids id hi)).trans (h.len id hi)⟩
theorem Ext.add {T : Tab} {id b n : Nat} (hid : id ∉ T.ids) : Ext T (T.add id b n) := by
  have : ∀ j ∈ T.ids, j ≠ id := fun j hj e => hid (e ▸ hj)
  exact ⟨fun j hj => List.mem_cons_of_mem _ hj, fun j hj => by simp [Tab.add, this j hj], fun j hj => by simp [Tab.add, this j hj]⟩
theorem Ext.sl {T T' : Tab} (h : Ext T T') {id : Nat} (hi : id ∈ T.ids) : T'.sl id = T.sl id := by unfold Tab.sl; rw [h.blk id hi, h.len id hi]
theorem Tab.Ok.add {T : Tab} (h : T.Ok) {id b n : Nat} (hid : id ∉ T.ids) : (T.add id b n).Ok := ⟨List.nodup_cons.2 ⟨hid, h.nodup⟩⟩
theorem Tab.add_sl {T : Tab} {id b n : Nat} : (T.add id b n).sl id = .slice (some ⟨b, 0, none⟩) n n := by simp [Tab.sl, Tab.add]
theorem Tab.add_mem {T : Tab} {id b n : Nat} : id ∈ (T.add id b n).ids := by simp [Tab.add]
theorem Tab.add_len {T : Tab} {id b n : Nat} : (T.add id b n).len id = n := by simp [Tab.add]
abbrev M0 : PM := fun _ _ => 1024
theorem M0_ok : PMok M0 := fun _ _ => ⟨Nat.le_of_ble_eq_true rfl, Nat.le_of_ble_eq_true rfl⟩
/-- Lengths of which i are new. -/
def lenP (T : Tab) (I : Lids) (i : Nat) : Array Value := (T.sl I.c :: ((List.range 16).map fun j => if j < i then T.sl (I.l + j) else Value.slice none 0 0) ++ (((List.range 16).map fun j => if j < i then T.sl (I.m + j) else Value.slice none 0 0) ++ [T.sl I.h])).toArray
theorem lenP_size (T : Tab) (I : Lids) (i : Nat) : (lenP T I i).size = 34 := by simp [lenP]
theorem lenP_16 (T : Tab) (I : Lids) : lenP T I 16 = lenCells T I := by
  unfold lenP lenCells
  have h : ∀ k, ((List.range 16).map fun j => if j < 16 then T.sl (k + j) else Value.slice none 0 0) = (List.range 16).map fun j => T.sl (k + j) := fun k => by
    apply List.map_congr_left
    intro j hj
    rw [if_pos (by simpa using hj)]
  rw [h, h]
theorem map_set {f : Nat → Value} {i : Nat} {v : Value} (n : Nat) : ((List.range n).map f).set i v = (List.range n).map fun j => if j = i then v else f j := by
  apply List.ext_getElem?
  intro k
  simp only [List.getElem?_set, List.getElem?_map, List.length_map, List.length_range]
  by_cases hk : k < n
  · rw [List.getElem?_range hk]
    by_cases hki : i = k
    · subst hki; simp [hk]
    · have : ¬ k = i := fun e => hki e.symm
      simp [hki, this]
  · have : (List.range n)[k]? = none := by simp; omega
    by_cases hki : i = k
    · subst hki; simp [this, hk]
    · simp [this, hki]
theorem lenP_step {T T' : Tab} {I : Lids} {i : Nat} {v u : Value} (hi : i < 16) (hx : ∀ j, j < i → T'.sl (I.l + j) = T.sl (I.l + j) ∧ T'.sl (I.m + j) = T.sl (I.m + j)) (hc : T'.sl I.c = T.sl I.c) (hh : T'.sl I.h = T.sl I.h) (hv : v = T'.sl (I.l + i)) (hu : u = T'.sl (I.m + i)) :
    ((lenP T I i).setIfInBounds (1 + i) v).setIfInBounds (17 + i) u = lenP T' I (i + 1) := by
  have e : ∀ (a : Value) (x y : List Value) (b p q : Value), x.length = 16 → y.length = 16 → (((a :: x ++ (y ++ [b])).toArray.setIfInBounds (1 + i) p).setIfInBounds (17 + i) q) = (a :: x.set i p ++ (y.set i q ++ [b])).toArray := by
    intro a x y b p q hx hy
    apply Array.ext'
    simp only [List.setIfInBounds_toArray, List.cons_append]
    rw [show 1 + i = i + 1 by omega, show 17 + i = (16 + i) + 1 by omega]
    simp only [List.set_cons_succ]
    rw [List.set_append_left _ _ (by omega), List.set_append_right _ _ (by simp [hx])]
    rw [List.length_set, hx, show 16 + i - 16 = i by omega, List.set_append_left _ _ (by omega)]
  unfold lenP
  rw [e _ _ _ _ _ _ (by simp) (by simp), map_set, map_set, hc, hh]
  have key : ∀ (k : Nat) (p : Value), p = T'.sl (k + i) → (∀ j, j < i → T'.sl (k + j) = T.sl (k + j)) → ((List.range 16).map fun j => if j = i then p else if j < i then T.sl (k + j) else Value.slice none 0 0) = (List.range 16).map fun j => if j < i + 1 then T'.sl (k + j) else Value.slice none 0 0 := by
    intro k p hp hk
    apply List.map_congr_left
    intro j _
    by_cases h1 : j = i
    · subst h1; simp [hp]
    · by_cases h2 : j < i
      · rw [if_neg h1, if_pos h2, if_pos (by omega), hk j h2]
      · rw [if_neg h1, if_neg h2, if_neg (by omega)]
  rw [key I.l v hv (fun j hj => (hx j hj).1), key I.m u hu (fun j hj => (hx j hj).2)]
/-- Of these numbers. -/
def Lids.has (I : Lids) (i id : Nat) : Prop := id = I.c ∨ id = I.h ∨ (I.l ≤ id ∧ id < I.l + i) ∨ (I.m ≤ id ∧ id < I.m + i)
structure NewL (T : Tab) (I : Lids) (i : Nat) (T' : Tab) : Prop where
  ok : T'.Ok
  ext : Ext T T'
  ids : ∀ id ∈ T'.ids, id ∈ T.ids ∨ I.has i id
  c : I.c ∈ T'.ids ∧ T'.len I.c = 2
  h : I.h ∈ T'.ids ∧ T'.len I.h = 256
  l : ∀ j, j < i → I.l + j ∈ T'.ids ∧ T'.len (I.l + j) = 8
  m : ∀ j, j < i → I.m + j ∈ T'.ids ∧ T'.len (I.m + j) = 8
theorem NewL.lids {T T' : Tab} {I : Lids} (h : NewL T I 16 T') : I.Ok T' := ⟨h.c, h.l, h.m, h.h⟩
theorem NewL.start {T : Tab} {I : Lids} (hT : T.Ok) (hf : ∀ id ∈ T.ids, ¬ I.has 16 id) (hs : I.c < I.l ∧ I.l + 16 ≤ I.m ∧ I.m + 16 ≤ I.h) (b1 b2 : Nat) : NewL T I 0 ((T.add I.c b1 2).add I.h b2 256) := by
  have n1 : I.c ∉ T.ids := fun h => hf _ h (.inl rfl)
  have n2 : I.h ∉ (T.add I.c b1 2).ids := fun h => by
    rcases List.mem_cons.1 h with h | h
    · omega
    · exact hf _ h (.inr (.inl rfl))
  have x2 : Ext (T.add I.c b1 2) ((T.add I.c b1 2).add I.h b2 256) := Ext.add n2
  refine ⟨(hT.add n1).add n2, (Ext.add n1).trans x2, fun id hi => ?_, ⟨x2.ids _ Tab.add_mem, (x2.len _ Tab.add_mem).trans Tab.add_len⟩, ⟨Tab.add_mem, Tab.add_len⟩, fun j hj => by omega, fun j hj => by omega⟩
  rcases List.mem_cons.1 hi with rfl | h
  · exact .inr (.inr (.inl rfl))
  · rcases List.mem_cons.1 h with rfl | h
    · exact .inr (.inl rfl)
    · exact .inl h
theorem NewL.fresh {T T' : Tab} {I : Lids} {i : Nat} (hn : NewL T I i T') (hi : i < 16) (hf : ∀ id ∈ T.ids, ¬ I.has 16 id) (hs : I.c < I.l ∧ I.l + 16 ≤ I.m ∧ I.m + 16 ≤ I.h) (b1 : Nat) : I.l + i ∉ T'.ids ∧ I.m + i ∉ (T'.add (I.l + i) b1 8).ids := by
  constructor
  · intro h
    rcases hn.ids _ h with h | h
    · exact hf _ h (.inr (.inr (.inl ⟨by omega, by omega⟩)))
    · unfold Lids.has at h; omega
  · intro h
    rcases List.mem_cons.1 h with h | h
    · omega
    · rcases hn.ids _ h with h | h
      · exact hf _ h (.inr (.inr (.inr ⟨by omega, by omega⟩)))
      · unfold Lids.has at h; omega
theorem NewL.step {T T' : Tab} {I : Lids} {i : Nat} (hn : NewL T I i T') (hi : i < 16) (hf : ∀ id ∈ T.ids, ¬ I.has 16 id) (hs : I.c < I.l ∧ I.l + 16 ≤ I.m ∧ I.m + 16 ≤ I.h) (b1 b2 : Nat) :
    NewL T I (i + 1) ((T'.add (I.l + i) b1 8).add (I.m + i) b2 8) ∧ ((lenP T' I i).setIfInBounds (1 + i) (.slice (some ⟨b1, 0, none⟩) 8 8)).setIfInBounds (17 + i) (.slice (some ⟨b2, 0, none⟩) 8 8) = lenP ((T'.add (I.l + i) b1 8).add (I.m + i) b2 8) I (i + 1) := by
  obtain ⟨n1, n2⟩ := hn.fresh hi hf hs b1
  have x1 : Ext T' (T'.add (I.l + i) b1 8) := Ext.add n1
  have x2 : Ext (T'.add (I.l + i) b1 8) ((T'.add (I.l + i) b1 8).add (I.m + i) b2 8) := Ext.add n2
  have x := x1.trans x2
  have up : ∀ id n, id ∈ T'.ids ∧ T'.len id = n → id ∈ ((T'.add (I.l + i) b1 8).add (I.m + i) b2 8).ids ∧ ((T'.add (I.l + i) b1 8).add (I.m + i) b2 8).len id = n := fun id n h => ⟨x.ids _ h.1, (x.len _ h.1).trans h.2⟩
  refine ⟨⟨(hn.ok.add n1).add n2, hn.ext.trans x, fun id hid => ?_, up _ _ hn.c, up _ _ hn.h, fun j hj => ?_, fun j hj => ?_⟩, lenP_step hi (fun j hj => ⟨x.sl (hn.l j hj).1, x.sl (hn.m j hj).1⟩) (x.sl hn.c.1) (x.sl hn.h.1) ?_ Tab.add_sl.symm⟩
  · rcases List.mem_cons.1 hid with rfl | h
    · right; unfold Lids.has; omega
    · rcases List.mem_cons.1 h with rfl | h
      · right; unfold Lids.has; omega
      · rcases hn.ids _ h with h | h
        · exact .inl h
        · right; unfold Lids.has at h ⊢; omega
  · by_cases h : j < i
    · exact up _ _ (hn.l j h)
    · obtain rfl : j = i := by omega
      exact ⟨x2.ids _ Tab.add_mem, (x2.len _ Tab.add_mem).trans Tab.add_len⟩
  · by_cases h : j < i
    · exact up _ _ (hn.m j h)
    · obtain rfl : j = i := by omega
      exact ⟨Tab.add_mem, Tab.add_len⟩
  · rw [x2.sl Tab.add_mem, Tab.add_sl]
theorem JC.grow {P : Program} {G : Gst} {Q : Exit → Act → World → Prop} {n' : Nat} {base : Nat → Value} {L : List (Nat × Value)} {D : List Deferred} {As r r' : List Asn} {x : Code} {T : Tab} {M : PM} {b n : Nat} {f : Nat → Nat} (id : Nat) (q : Pick (cel b 61 (chs f n)) As r) (q2 : Pick (Chances T M) r r') (hf : f = M id) (hid : id ∉ T.ids)
    (k : JC P G Q x n' base L D (Chances (T.add id b n) M :: r')) : JC P G Q x n' base L D As := ⟨fun w hw => k.run w (Proofs.YtfpepghmbeoanaaGreatDoor.grow hf hid ((hw.picks (.cons q (.cons q2 .nil)))))⟩
theorem JX.grow {G : Gst} {Q : Exit → Act → World → Prop} {n' : Nat} {base : Nat → Value} {L : List (Nat × Value)} {D : List Deferred} {As r r' : List Asn} {x : Exit} {T : Tab} {M : PM} {b n : Nat} {f : Nat → Nat} (id : Nat) (q : Pick (cel b 61 (chs f n)) As r) (q2 : Pick (Chances T M) r r') (hf : f = M id) (hid : id ∉ T.ids)
    (k : JX G Q x n' base L D (Chances (T.add id b n) M :: r')) : JX G Q x n' base L D As := ⟨fun w hw => k.run w (Proofs.YtfpepghmbeoanaaGreatDoor.grow hf hid ((hw.picks (.cons q (.cons q2 .nil)))))⟩
theorem JO.grow {P : Program} {G : Gst} {ops : Array Oper} {Q : Exit → Act → World → Prop} {n' : Nat} {base : Nat → Value} {L : List (Nat × Value)} {D : List Deferred} {As r r' : List Asn} {x : List Oper} {T : Tab} {M : PM} {b n : Nat} {f : Nat → Nat} (id : Nat) (q : Pick (cel b 61 (chs f n)) As r) (q2 : Pick (Chances T M) r r') (hf : f = M id) (hid : id ∉ T.ids)
    (k : JO P G ops Q x n' base L D (Chances (T.add id b n) M :: r')) : JO P G ops Q x n' base L D As := ⟨fun w hw => k.run w (Proofs.YtfpepghmbeoanaaGreatDoor.grow hf hid ((hw.picks (.cons q (.cons q2 .nil)))))⟩

set_option maxRecDepth 100000 in
theorem newL_con (G : Gst) (T : Tab) (I : Lids) (hT : T.Ok) (hf : ∀ id ∈ T.ids, ¬ I.has 16 id) (hs : I.c < I.l ∧ I.l + 16 ≤ I.m ∧ I.m + 16 ≤ I.h) :
    Con Tryz.prog G 18 #[] [Chances T M0] (fun i : {i : Nat × Tab // NewL T I 16 i.2} => .pointer (some ⟨i.1.1, 0, none⟩)) (fun i => [Chances i.1.2 M0, cel i.1.1 75 (lenCells i.1.2 I)]) := by
  refine Con.intro Tryz.func18 rfl (by kernel_rfl) Tryz.ntmps18 (Nat.le_of_ble_eq_true rfl) ?_
  intro F
  show JC _ _ _ _ _ _ [] _ [_, _]
  refine sR ?_
  refine oC ?_
  refine nC (sR ?_)
  refine JO.call (Evs.cons ev_const Evs.nil) (halves_con G 2 (by omega) rfl) xpkE ?_
  rintro b1
  show JO _ _ _ _ _ _ _ ((3, _) :: _) _ (_ :: _ :: _)
  refine JO.call (Evs.cons ev_const Evs.nil) (halves_con G 256 (by omega) rfl) xpkE ?_
  rintro b2
  show JO _ _ _ _ _ _ _ ((4, _) :: _) _ (_ :: _ :: _)
  refine JO.py (Py.build bld75 (Pts.cons xe (Pts.cons xe Pts.nil)) xfl) ?_
  refine JO.boxA xe ?_; intro b6
  refine oA ?_
  refine nC (JC.seq (sR ?_))
  refine JO.py (Py.move ev_const) ?_
  refine nC (JC.block ?_)
  have nh : I.h ∉ (T.add I.c b1 2).ids := by
    intro h
    rcases List.mem_cons.1 h with h | h
    · omega
    · exact hf _ h (.inr (.inl rfl))
  refine JC.grow (M := M0) (f := half) (T := T) (b := b1) I.c xpick xpick rfl (fun h => hf _ h (.inl rfl)) ?_
  refine JC.grow (M := M0) (f := half) (T := T.add I.c b1 2) (b := b2) I.h xpick xpick rfl nh ?_
  have h0 := NewL.start hT hf hs b1 b2
  have hc0 : ((T.add I.c b1 2).add I.h b2 256).sl I.c = .slice (some ⟨b1, 0, none⟩) 2 2 := by
    rw [Ext.sl (Ext.add nh) Tab.add_mem, Tab.add_sl]
  have hh0 : ((T.add I.c b1 2).add I.h b2 256).sl I.h = .slice (some ⟨b2, 0, none⟩) 256 256 := Tab.add_sl
  refine JC.as (A := cel b6 75 _) (A' := cel b6 75 (lenP ((T.add I.c b1 2).add I.h b2 256) I 0)) xpick (cel_eq (by unfold lenP; rw [hc0, hh0]; rfl)) ?_
  refine JC.loop (ι := Nat × Tab) (fun i => i.1 ≤ 16 ∧ NewL T I i.1 i.2) (fun i => [(1, .pointer (some ⟨b6, 0, none⟩)), (7, .int .i64 i.1)]) (fun i => [Chances i.2 M0, cel b6 75 (lenP i.2 I i.1), F]) (fun i => 16 - i.1) (0, (T.add I.c b1 2).add I.h b2 256) ⟨Nat.zero_le _, h0⟩ xag xpkE ?_
  rintro ⟨i, T1⟩ base' ⟨hi, hn⟩
  dsimp only at hi hn ⊢
  by_cases h : i < 16
  · skip
    have hsz := lenP_size T1 I i
    have hsz1 : 1 + i < (lenP T1 I i).size := by omega
    refine sR ?_
    first | refine oD (Py.lss xe ev_const) ?_ | refine oU (Py.lss xe ev_const) ?_ | refine JO.py (Py.lss xe ev_const) ?_
    refine nC (JC.seq ?_)
    refine cT ?_
    refine JC.skip (JX.code (JC.seq (JC.block (sR ?_))))
    refine oM ?_
    refine oA ?_
    refine nC ?_
    refine JC.regionM [(0, true), (1, true), (2, true), (3, true), (6, true), (7, true), (10, true), (11, true), (4, false), (5, false), (8, true), (9, false), (12, true), (13, false)] mixed (by kernel_rfl) ?_
    refine JM.py ao ⟨fun _ => Py.move xe⟩ ?_
    refine JM.py ao ⟨fun _ => Py.move xe⟩ ?_
    refine JM.py ao ⟨fun _ => Py.move xe⟩ ?_
    refine JM.py ao ⟨fun _ => Py.move xe⟩ ?_
    refine JM.py ao ⟨fun _ => Py.nil xe⟩ ?_
    refine JM.py ao ⟨fun _ => Py.fld fld75_1 xe xoff⟩ ?_
    refine JM.py ao ⟨fun _ => Py.nil xe⟩ ?_
    refine JM.py ao ⟨fun _ => Py.fld fld75_2 xe xoff⟩ ?_
    refine JM.eff ao ?_
    refine JO.call (Evs.cons ev_const Evs.nil) (halves_con G 8 (by omega) rfl) xpkE ?_
    rintro b3
    show JO _ _ _ _ _ _ _ ((14, _) :: _) _ (_ :: _ :: _)
    refine JO.nil ?_
    refine JX.mix Kept.nil ?_
    refine JM.eff ao ?_
    refine JO.call (Evs.cons ev_const Evs.nil) (halves_con G 8 (by omega) rfl) xpkE ?_
    rintro b4
    show JO _ _ _ _ _ _ _ ((15, _) :: _) _ (_ :: _ :: _)
    refine JO.nil ?_
    refine JX.mix Kept.nil ?_
    refine JM.py ao ⟨fun _ => Py.idxA Tryz.underlying73 siz48 xe xe (by omega) xidx xmult⟩ ?_
    refine JM.eff ao ?_
    refine JO.store siz48 xe xe (by first | rfl | assumption) xpick xsize xnorm ?_
    refine JO.nil ?_
    refine JX.mix Kept.nil ?_
    refine JM.py ao ⟨fun _ => Py.idxA Tryz.underlying73 siz48 xe xe (by omega) xidx xmult⟩ ?_
    refine JM.eff ao ?_
    refine JO.store siz48 xe xe (by first | rfl | assumption) xpick xsize xnorm ?_
    refine JO.nil ?_
    refine JX.mix Kept.nil ?_
    refine JM.nil (JX.blockN (JX.code (JC.region ?_)))
    refine JO.py (Py.add xe ev_const wI) ?_
    refine oM ?_
    refine JO.nil ?_
    obtain ⟨st1, st2⟩ := hn.step h hf hs b3 b4
    obtain ⟨n1, n2⟩ := hn.fresh h hf hs b3
    refine JX.grow (M := M0) (f := half) (b := b3) (I.l + i) xpick xpick rfl n1 ?_
    refine JX.grow (M := M0) (f := half) (b := b4) (I.m + i) xpick xpick rfl n2 ?_
    refine JX.as (A := cel b6 75 _) (A' := cel b6 75 (lenP ((T1.add (I.l + i) b3 8).add (I.m + i) b4 8) I (i + 1))) xpick (cel_eq st2) ?_
    refine JX.loop (i + 1, (T1.add (I.l + i) b3 8).add (I.m + i) b4 8) ⟨by dsimp only; omega, st1⟩ (by dsimp only; omega) xag xpkE
  · skip
    obtain rfl : i = 16 := by omega
    refine sR ?_
    first | refine oD (Py.lss xe ev_const) ?_ | refine oU (Py.lss xe ev_const) ?_ | refine JO.py (Py.lss xe ev_const) ?_
    refine nC (JC.seq ?_)
    refine cF ?_
    refine JC.exit (JX.exit (JX.exit (JX.blockE (JX.code (sR ?_)))))
    refine oM ?_
    refine oA ?_
    refine nC (JC.ret ?_)
    rw [lenP_16]
    refine JX.end1 (Or.inl rfl) (⟨(b6, T1), hn⟩) Tryz.results18 ((xe).trans (by first | exact xval | (dsimp only; exact xval))) xpkE
end Go.Proofs.YtfpepghmbeoanaaGreatDoor
end

section
open Go Go.RowKit
namespace Go.Proofs.YtfpepghmbeoanaaGreatDoor
open Lz
/-- The numbers lc, lp, pb. -/
structure Cfg where
  lc : Nat
  lp : Nat
  pb : Nat
structure Cfg.Ok (c : Cfg) : Prop where
  l : c.lc + c.lp ≤ 4
  p : c.pb ≤ 4
/-- Where the coder stands. -/
structure LzS where
  st : Nat
  r0 : Nat
  r1 : Nat
  r2 : Nat
  r3 : Nat
  i : Nat
inductive Sym where
  | lit
  | rep (k n : Nat)
  | mat (d n : Nat)
def LzS.start : LzS := ⟨0, 0, 0, 0, 0, 0⟩
def LzS.rk (S : LzS) : Nat → Nat
  | 0 => S.r0
  | 1 => S.r1
  | 2 => S.r2
  | _ => S.r3
def matSt (st lo hi : Nat) : Nat := if st < 7 then lo else hi
def LzS.next (S : LzS) : Sym → LzS
  | .lit => { S with st := litSt S.st, i := S.i + 1 }
  | .rep k n => { st := matSt S.st 8 11, r0 := S.rk k, r1 := if k = 0 then S.r1 else S.r0, r2 := if k ≤ 1 then S.r2 else S.r1, r3 := if k ≤ 2 then S.r3 else S.r2, i := S.i + n }
  | .mat d n => { st := matSt S.st 7 10, r0 := d, r1 := S.r0, r2 := S.r1, r3 := S.r2, i := S.i + n }
def Cfg.pos (c : Cfg) (i : Nat) : Nat := i % 2 ^ c.pb
/-- Where the byte's chances begin. -/
def Cfg.litO (c : Cfg) (b : List Nat) (i : Nat) : Nat := 768 * (i % 2 ^ c.lp * 2 ^ c.lc + (if i = 0 then 0 else b.getD (i - 1) 0) / 2 ^ (8 - c.lc))
def matI : Lids := ⟨22, 24, 40, 56⟩
def repI : Lids := ⟨23, 57, 73, 89⟩
def repEv (st p k : Nat) : List Ev :=
  if k = 0 then [.bit 2 st false, .bit 5 (16 * st + p) true]
  else if k = 1 then [.bit 2 st true, .bit 3 st false]
  else [.bit 2 st true, .bit 3 st true, .bit 4 st (k == 3)]
def symEv (c : Cfg) (b : List Nat) (S : LzS) : Sym → List Ev
  | .lit => .bit 0 (16 * S.st + c.pos S.i) false :: litEv 21 (c.litO b S.i) (b.getD S.i 0) S.st (b.getD (S.i - S.r0 - 1) 0)
  | .rep k n => .bit 0 (16 * S.st + c.pos S.i) true :: .bit 1 S.st true :: (repEv S.st (c.pos S.i) k ++ lenEv repI n (c.pos S.i))
  | .mat d n => .bit 0 (16 * S.st + c.pos S.i) true :: .bit 1 S.st false :: (lenEv matI n (c.pos S.i) ++ distEv (6 + min (n - 2) 3) d)
/-- What a symbol asks for. -/
def Valid (b : List Nat) (S : LzS) : Sym → Prop
  | .lit => S.i < b.length ∧ (7 ≤ S.st → S.r0 < S.i)
  | .rep k n => k < 4 ∧ 2 ≤ n ∧ EqR b S.i (S.rk k + 1) n
  | .mat d n => 2 ≤ n ∧ EqR b S.i (d + 1) n
def LzS.run (S : LzS) : List Sym → LzS
  | [] => S
  | y :: l => (S.next y).run l
def symsEv (c : Cfg) (b : List Nat) : LzS → List Sym → List Ev
  | _, [] => []
  | S, y :: l => symEv c b S y ++ symsEv c b (S.next y) l
def ValidAll (b : List Nat) : LzS → List Sym → Prop
  | _, [] => True
  | S, y :: l => Valid b S y ∧ ValidAll b (S.next y) l
theorem run_snoc (l : List Sym) (y : Sym) : ∀ S : LzS, S.run (l ++ [y]) = (S.run l).next y := by
  induction l with
  | nil => intro S; rfl
  | cons x l ih => intro S; exact ih _
theorem symsEv_snoc (c : Cfg) (b : List Nat) (l : List Sym) (y : Sym) : ∀ S : LzS, symsEv c b S (l ++ [y]) = symsEv c b S l ++ symEv c b (S.run l) y := by
  induction l with
  | nil => intro S; simp [symsEv, LzS.run]
  | cons x l ih => intro S; simp only [List.cons_append, symsEv, LzS.run, ih, List.append_assoc]
theorem validAll_snoc (b : List Nat) (l : List Sym) (y : Sym) : ∀ S : LzS, ValidAll b S l → Valid b (S.run l) y → ValidAll b S (l ++ [y]) := by
  induction l with
  | nil => intro S _ h; exact ⟨h, trivial⟩
  | cons x l ih => intro S h1 h2; exact ⟨h1.1, ih _ h1.2 h2⟩
/-- What the coder always keeps. -/
structure LzS.Ok (S : LzS) (len : Nat) : Prop where
  st : S.st < 12
  i : S.i ≤ len
  r : S.r0 ≤ len ∧ S.r1 ≤ len ∧ S.r2 ≤ len ∧ S.r3 ≤ len
  old : 7 ≤ S.st → S.r0 < S.i
theorem LzS.start_ok (len : Nat) : LzS.start.Ok len := ⟨by decide, Nat.zero_le _, ⟨Nat.zero_le _, Nat.zero_le _, Nat.zero_le _, Nat.zero_le _⟩, fun h => absurd h (by decide)⟩
theorem litSt_lt {st : Nat} (h : st < 12) : litSt st < 7 := by
  unfold litSt
  split
  · omega
  · split <;> omega
theorem LzS.Ok.rk_le {S : LzS} {len : Nat} (h : S.Ok len) (k : Nat) : S.rk k ≤ len := by
  unfold LzS.rk; split; exact h.r.1; exact h.r.2.1; exact h.r.2.2.1; exact h.r.2.2.2
theorem LzS.next_ok {b : List Nat} {S : LzS} (h : S.Ok b.length) (y : Sym) (hv : Valid b S y) : (S.next y).Ok b.length := by
  have h0 := h.st
  cases y with
  | lit =>
    have hl := litSt_lt h0
    have h1 := hv.1
    exact ⟨by show litSt S.st < 12; omega, h1, h.r, fun h => absurd h (by show ¬ 7 ≤ litSt S.st; omega)⟩
  | rep k n =>
    obtain ⟨hk, hn, he⟩ := hv
    have hr := h.rk_le k
    have hd : S.rk k + 1 ≤ S.i := he.dist.resolve_left (by omega)
    have hf := he.fit
    refine ⟨?_, hf, ⟨hr, ?_, ?_, ?_⟩, fun _ => ?_⟩
    · show matSt S.st 8 11 < 12; unfold matSt; split <;> omega
    · show (if k = 0 then S.r1 else S.r0) ≤ _; split; exact h.r.2.1; exact h.r.1
    · show (if k ≤ 1 then S.r2 else S.r1) ≤ _; split; exact h.r.2.2.1; exact h.r.2.1
    · show (if k ≤ 2 then S.r3 else S.r2) ≤ _; split; exact h.r.2.2.2; exact h.r.2.2.1
    · show S.rk k < S.i + n; omega
  | mat d n =>
    obtain ⟨hn, he⟩ := hv
    have hd : d + 1 ≤ S.i := he.dist.resolve_left (by omega)
    have hf := he.fit
    have hi := h.i
    refine ⟨?_, hf, ⟨by show d ≤ _; omega, h.r.1, h.r.2.1, h.r.2.2.1⟩, fun _ => ?_⟩
    · show matSt S.st 7 10 < 12; unfold matSt; split <;> omega
    · show d < S.i + n; omega
theorem repEv_len (st p k : Nat) : (repEv st p k).length ≤ 3 := by unfold repEv; split; simp; split <;> simp
theorem symEv_len (c : Cfg) (b : List Nat) (S : LzS) (y : Sym) (hd : ∀ d n, y = .mat d n → d < 1048576) : (symEv c b S y).length ≤ 50 := by
  cases y with
  | lit => simp [symEv, litEv_len]
  | rep k n =>
    have h1 := repEv_len S.st (c.pos S.i) k
    have h2 := lenEv_len repI n (c.pos S.i)
    simp only [symEv, List.length_cons, List.length_append]; omega
  | mat d n =>
    have h1 := lenEv_len matI n (c.pos S.i)
    have h2 := distEv_len (6 + min (n - 2) 3) d (hd d n rfl)
    simp only [symEv, List.length_cons, List.length_append]; omega
end Go.Proofs.YtfpepghmbeoanaaGreatDoor
end

section
open Go Go.RowKit
namespace Go.Proofs.YtfpepghmbeoanaaGreatDoor
open Lz
section
variable {P : Program} {G : Gst} {ops : Array Oper} {Q : Exit → Act → World → Prop} {n : Nat} {base : Nat → Value} {L : List (Nat × Value)} {D : List Deferred} {As r : List Asn}
theorem row_of {b e m : Nat} {cur : Array Value} {xs : List Value} (h : cur.toList = xs) (hl : xs.length = m) (hn : m < 9223372036854775808) {hp : Hp} (hc : cel b e cur hp) : Row e (.slice (some ⟨b, 0, none⟩) m m) xs hp := by
  subst hl h
  refine Or.inr ⟨b, cur.toList.length, cur, rfl, Nat.le_refl _, hn, by simp, List.take_of_length_le (Nat.le_refl _), hc⟩
theorem JO.toRow {b e m : Nat} {cur : Array Value} {xs : List Value} {l : List Oper} (q : Pick (cel b e cur) As r) (h : cur.toList = xs) (hl : xs.length = m) (hn : m < 9223372036854775808) (k : JO P G ops Q l n base L D (Row e (.slice (some ⟨b, 0, none⟩) m m) xs :: r)) : JO P G ops Q l n base L D As :=
  ⟨fun w hw => k.run w ((hw.pick q).of fun hs => by
    obtain ⟨h1, h2, hd, e, ha, hb⟩ := hs
    exact ⟨h1, h2, hd, e, row_of h hl hn ha, hb⟩)⟩
theorem JC.toRow {b e m : Nat} {cur : Array Value} {xs : List Value} {l : Code} (q : Pick (cel b e cur) As r) (h : cur.toList = xs) (hl : xs.length = m) (hn : m < 9223372036854775808) (k : JC P G Q l n base L D (Row e (.slice (some ⟨b, 0, none⟩) m m) xs :: r)) : JC P G Q l n base L D As :=
  ⟨fun w hw => k.run w ((hw.pick q).of fun hs => by
    obtain ⟨h1, h2, hd, e, ha, hb⟩ := hs
    exact ⟨h1, h2, hd, e, row_of h hl hn ha, hb⟩)⟩
end
/-- A number's bytes, the lowest first. -/
def leN (v n : Nat) : List Nat := (List.range n).map fun i => v / 2 ^ (8 * i) % 256
theorem leN_len (v n : Nat) : (leN v n).length = n := by simp [leN]
theorem leN_snoc (v n : Nat) : leN v (n + 1) = leN v n ++ [v / 2 ^ (8 * n) % 256] := by simp [leN, List.range_succ]
set_option maxRecDepth 100000 in
theorem little_con (G : Gst) (v n : Nat) (hn : n ≤ 8) (hv : v < 18446744073709551616) : Con Tryz.prog G 16 #[.int .u64 (v : Int), .int .i64 (n : Int)] [] (fun x : Value => x) (fun x => [Row 5 x (u8s (leN v n))]) := by
  refine Con.intro Tryz.func16 rfl (by kernel_rfl) Tryz.ntmps16 (Nat.le_of_ble_eq_true rfl) ?_
  intro F
  show JC _ _ _ _ _ _ [(0, _), (1, _)] _ [_]
  refine sR ?_
  refine oC ?_
  refine nC (sR ?_)
  refine JO.bslice Tryz.underlying22 elm5 Evs.nil rfl rfl (by simp [Value.oneCell']) (by decide) ?_; intro b7
  refine oA ?_
  refine nC (JC.seq (sR ?_))
  refine oM ?_
  refine JO.py (Py.move ev_const) ?_
  refine nC (JC.block ?_)
  refine JC.toRow (b := b7) (e := 5) (cur := #[]) (xs := u8s (leN v 0)) (m := 0) xpick rfl rfl (by decide) ?_
  refine JC.loop (ι := Nat × Value) (fun i => i.1 ≤ n) (fun i => [(0, .int .u64 v), (5, i.2), (8, .int .i64 n), (9, .int .i64 i.1)]) (fun i => [Row 5 i.2 (u8s (leN v i.1)), F]) (fun i => n - i.1) (0, .slice (some ⟨b7, 0, none⟩) 0 0) (Nat.zero_le _) xag xpk ?_
  rintro ⟨i, x⟩ base' hi
  dsimp only at hi ⊢
  have hln := leN_len v i
  by_cases h : i < n
  · skip
    refine sR ?_
    first | refine oD (Py.lss xe xe) ?_ | refine oU (Py.lss xe xe) ?_ | refine JO.py (Py.lss xe xe) ?_
    refine nC (JC.seq ?_)
    refine cT ?_
    refine JC.skip (JX.code (JC.seq (JC.block (sR ?_))))
    refine oM ?_
    refine oA ?_
    refine nC (JC.region ?_)
    refine oM ?_
    refine oM ?_
    refine oM ?_
    refine JO.py (Py.mul ev_const xe wI) ?_
    refine JO.py (Py.shrN (8 * i) (a := v) xe xe (by omega) (by simp only [IntKind.bits]; omega)) ?_
    first | refine JO.py (Py.conv cnv43_5 xe (w_u8 (by omega))) ?_ | refine JO.py (Py.conv cnv43_5 xe (m_u8 _)) ?_
    refine JO.bslice Tryz.underlying22 elm5 (Evs.cons xe Evs.nil) rfl rfl (by simp [Value.oneCell']) (by decide) ?_; intro b18
    refine JO.app Tryz.underlying22 elm5 xe xe xpick (Src.lit rfl xpick (by rfl) (by simp [Value.oneCell'])) (by simp [u8s]; omega) (by decide) ?_
    intro v19 ho19
    refine oA ?_
    refine JO.nil (JX.blockN (JX.code (JC.region ?_)))
    refine JO.py (Py.add xe ev_const wI) ?_
    refine oM ?_
    refine JO.nil ?_
    refine JX.as (A := Row 5 v19 _) (A' := Row 5 v19 (u8s (leN v (i + 1)))) xpick (row_eq (by rw [leN_snoc]; exact u8s_snoc (by simp))) ?_
    refine JX.loop (i + 1, v19) (by dsimp only; omega) (by dsimp only; omega) xag xpk
  · skip
    obtain rfl : i = n := by omega
    refine sR ?_
    first | refine oD (Py.lss xe xe) ?_ | refine oU (Py.lss xe xe) ?_ | refine JO.py (Py.lss xe xe) ?_
    refine nC (JC.seq ?_)
    refine cF ?_
    refine JC.exit (JX.exit (JX.exit (JX.blockE (JX.code (sR ?_)))))
    refine oM ?_
    refine oA ?_
    refine nC (JC.ret ?_)
    refine JX.end1 (Or.inl rfl) (x) Tryz.results16 ((xe).trans (by first | exact xval | (dsimp only; exact xval))) xpk
set_option maxRecDepth 100000 in
theorem propB_con (G : Gst) (c : Cfg) (hc : c.Ok) (w : Nat) (hw : w < 4294967296) : Con Tryz.prog G 8 #[.int .i64 (c.lc : Int), .int .i64 (c.lp : Int), .int .i64 (c.pb : Int), .int .i64 (w : Int)] [] (fun x : Value => x) (fun x => [Row 5 x (u8s ((c.lc + 9 * (c.lp + 5 * c.pb)) :: leN w 4))]) := by
  have h1 := hc.l
  have h2 := hc.p
  have hln := leN_len w 4
  refine Con.intro Tryz.func8 rfl (by kernel_rfl) Tryz.ntmps8 (Nat.le_of_ble_eq_true rfl) ?_
  intro F
  show JC _ _ _ _ _ _ [(0, _), (1, _), (2, _), (3, _)] _ [_]
  refine sR ?_
  refine oC ?_
  refine nC (sR ?_)
  refine oM ?_
  refine oM ?_
  refine oM ?_
  refine JO.py (Py.mul ev_const xe wI) ?_
  refine JO.py (Py.add xe xe wI) ?_
  refine JO.py (Py.mul ev_const xe wI) ?_
  refine JO.py (Py.add xe xe wI) ?_
  first | refine JO.py (Py.conv cnv3_5 xe (w_u8 (by omega))) ?_ | refine JO.py (Py.conv cnv3_5 xe (m_u8 _)) ?_
  refine JO.bslice Tryz.underlying22 elm5 (Evs.cons xe Evs.nil) rfl rfl (by simp [Value.oneCell']) (by decide) ?_; intro b17
  refine oM ?_
  first | refine JO.py (Py.conv cnv3_43 xe (w_u64 (by omega))) ?_ | refine JO.py (Py.conv cnv3_43 xe (m_u64 _)) ?_
  refine JO.call (Evs.cons xe (Evs.cons ev_const Evs.nil)) (little_con G w 4 (by decide) (by omega)) xpk ?_
  rintro y
  show JO _ _ _ _ _ _ _ ((20, _) :: _) _ (_ :: _ :: _)
  refine JO.rowV (e := 5) (v := y) (xs := u8s (leN w 4)) xpick ?_
  intro a_ c_ hy_ _
  refine JO.as (A := cel b17 5 _) (A' := cel b17 5 #[vu8 (c.lc + 9 * (c.lp + 5 * c.pb))]) xpick (cel_eq xcells) ?_
  refine JO.toRow (b := b17) (e := 5) (cur := #[vu8 (c.lc + 9 * (c.lp + 5 * c.pb))]) (xs := u8s [c.lc + 9 * (c.lp + 5 * c.pb)]) (m := 1) (by exact xpick) rfl rfl (by decide) ?_
  refine JO.app Tryz.underlying22 elm5 xe xe xpick (Src.row xpick u8s_one ⟨a_, _, c_, hy_, rfl⟩) (by simp [u8s, hln]) (by decide) ?_
  intro v21 ho21
  refine oA ?_
  refine nC (JC.ret ?_)
  refine JX.end1 (Or.inl rfl) (v21) Tryz.results8 ((xe).trans (by first | exact xval | (dsimp only; exact xval))) xpk
end Go.Proofs.YtfpepghmbeoanaaGreatDoor
end
