/-
LZMA2's reader reads.
LZMA as a reader; the thin package's calls.
-/
import Derived.Test.YtfpepghmbeoanaaGreatDoorQ11
set_option linter.unusedSimpArgs false
set_option linter.unusedVariables false
section
open Go Go.RowKit
namespace Go.Proofs.YtfpepghmbeoanaaGreatDoor
open Lz
/-- A chunk. -/
inductive Ck where
  | raw (p : List Nat)
  | pk (p : List Nat) (c : Cfg) (l : List Sym) (x1 x2 x3 x4 : Nat) (rb : List Nat)
def Ck.data : Ck → List Nat
  | .raw p => p
  | .pk p _ _ _ _ _ _ _ => p
def Ck.bytes : Ck → List Nat
  | .raw p => 1 :: (p.length - 1) / 256 :: (p.length - 1) % 256 :: p
  | .pk p c _ x1 x2 x3 x4 rb => 224 :: (p.length - 1) / 256 :: (p.length - 1) % 256 :: (rb.length + 4) / 256 :: (rb.length + 4) % 256 :: (c.lc + 9 * (c.lp + 5 * c.pb)) :: (0 :: x1 :: x2 :: x3 :: x4 :: rb)
def Ck.Ok : Ck → Prop
  | .raw p => 0 < p.length ∧ p.length ≤ 3000
  | .pk p c l x1 x2 x3 x4 rb => StreamOk c p l x1 x2 x3 x4 rb ∧ rb.length + 5 ≤ 65536
def cksBytes (cl : List Ck) : List Nat := cl.flatMap Ck.bytes ++ [0]
def cksData (cl : List Ck) : List Nat := cl.flatMap Ck.data
theorem Ck.Ok.len {ck : Ck} (h : ck.Ok) : 0 < ck.data.length ∧ ck.data.length ≤ 3000 := by
  cases ck with
  | raw p => exact h
  | pk p c l x1 x2 x3 x4 rb => exact ⟨h.1.pos, h.1.len⟩
/-- What is left of the text. -/
structure RemOk (X : L2P) (cl : List Ck) (pre : Nat) : Prop where
  d : X.all.drop pre = cksData cl
  le : pre ≤ X.all.length
  ok : ∀ ck ∈ cl, ck.Ok
theorem RemOk.at {X : L2P} {ck : Ck} {cl : List Ck} {pre : Nat} (h : RemOk X (ck :: cl) pre) : AtP X ck.data pre ∧ RemOk X cl (pre + ck.data.length) := by
  have hd : X.all.drop pre = ck.data ++ cksData cl := by rw [h.d]; simp [cksData]
  have hl := congrArg List.length hd
  rw [List.length_drop, List.length_append] at hl
  have hle := h.le
  refine ⟨⟨?_, by omega, (h.ok ck (by simp)).len.1⟩, drop_add hd rfl, by omega, fun c hc => h.ok c (by simp [hc])⟩
  intro j hj
  have := congrArg (·[j]?) hd
  simp only [List.getElem?_drop] at this
  rw [List.getD_eq_getElem?_getD, List.getD_eq_getElem?_getD, this, List.getElem?_append_left hj]
/-- A chunk that is being read. -/
abbrev CkI (G : Gst) (X : L2P) (ea : Addr) (eT : TypeId) (ef : Nat × Nat) (after : List Nat) (pre len : Nat) : Type := {K : CkR G X ea eT ef // K.pre = pre ∧ K.len = len ∧ K.after = after ∧ (K.st = 83 ∨ K.st = 76 ∨ K.st = 82)}
theorem sc_con (G : Gst) (X : L2P) (hX : X.Ok) (ur dc : Option Nat) (cr : Value) (st pre : Nat) (ck : Ck) (hk : ck.Ok) (hA : AtP X ck.data pre) (after : List Nat) (hst : st = 83 ∨ st = 76 ∨ st = 82) (ea : Addr) (eT : TypeId) (ef : Nat × Nat) :
    Con Tryz.prog G 67 #[.pointer (some ⟨X.rr, 0, none⟩)] [R2C X.rr X.Z.v .nilIface X.dd (ptV ur) (ptV dc) cr st, BndA X ur dc (ck.bytes ++ after) pre, EofA ea eT ef] (fun _ : CkI G X ea eT ef after pre ck.data.length => .nilIface)
      (fun K => [R2C X.rr X.Z.v .nilIface X.dd (ptV K.1.ur) (ptV K.1.dc) (.iface K.1.t K.1.u) K.1.st, K.1.St true pre, EofA ea eT ef]) := by
  cases ck with
  | raw p =>
    have hl := hk.2
    have hp := hk.1
    have h := sc1_con G X hX ur dc (ptV dc) cr st pre ((p.length - 1) / 256) ((p.length - 1) % 256) p after hst (by omega) (by omega) (by omega) ea eT ef
    refine Con.conseq h fun F w hw => ⟨F, hw, ?_⟩
    rintro u w' hw'
    exact ⟨⟨rawCk G X hX ea eT ef u dc p after pre hA, rfl, rfl, rfl, .inr (.inr rfl)⟩, rfl, hw'⟩
  | pk p c l x1 x2 x3 x4 rb =>
    have hl := hk.1.len
    have hp := hk.1.pos
    have h := sc6_con G X hX ur dc (ptV ur) cr st pre ((p.length - 1) / 256) ((p.length - 1) % 256) ((rb.length + 4) / 256) ((rb.length + 4) % 256) (c.lc + 9 * (c.lp + 5 * c.pb)) c p after l x1 x2 x3 x4 rb ⟨hk.1, hA⟩ hst (by omega) (by omega) (by have := hk.2; omega) (by omega) rfl (by omega) (by omega) ea eT ef
    refine Con.conseq h fun F w hw => ⟨F, hw, ?_⟩
    rintro ⟨Y, h1, h2, h3⟩ w' hw'
    refine ⟨⟨pkCk G X ea eT ef ur Y, h1, by show Y.K.bs.length = p.length; rw [h2], h3, .inr (.inl rfl)⟩, rfl, ?_⟩
    have h4 : Sat G w' ([DecSt Y.K true pre, urA X.dd ur] ++ [R2C X.rr X.Z.v .nilIface X.dd (ptV ur) (.pointer (some ⟨Y.K.d, 0, none⟩)) (.iface 189 (.pointer (some ⟨Y.K.d, 0, none⟩))) 76, EofA ea eT ef, F]) := Sat.get hw' xpkE
    have h5 : Sat G w' (Two (DecSt Y.K true pre) (urA X.dd ur) :: [R2C X.rr X.Z.v .nilIface X.dd (ptV ur) (.pointer (some ⟨Y.K.d, 0, none⟩)) (.iface 189 (.pointer (some ⟨Y.K.d, 0, none⟩))) 76, EofA ea eT ef, F]) := Sat.shuts (f := fun _ : Unit => [DecSt Y.K true pre, urA X.dd ur]) () h4
    have h6 : Sat G w' [R2C X.rr X.Z.v .nilIface X.dd (ptV ur) (.pointer (some ⟨Y.K.d, 0, none⟩)) (.iface 189 (.pointer (some ⟨Y.K.d, 0, none⟩))) 76, Two (DecSt Y.K true pre) (urA X.dd ur), EofA ea eT ef, F] := Sat.get h5 xpkE
    exact h6
theorem splice_cat {ps : Array Value} {all : List Nat} {i n k : Nat} (h : n + k ≤ ps.size) : splice (splice ps 0 (piece all i n)) n (piece all (i + n) k) = splice ps 0 (piece all i (n + k)) := by
  have h1 : piece all i (n + k) = piece all i n ++ piece all (i + n) k := by
    simp [piece, List.range_add, List.map_append, Function.comp_def, Nat.add_assoc]
  rw [h1]
  unfold splice
  have hl := piece_len all i n
  have hl2 := piece_len all (i + n) k
  simp only [List.take_zero, List.nil_append, Nat.zero_add, hl, List.length_append, hl2]
  congr 1
  rw [List.take_append_of_le_length (by omega), List.take_of_length_le (by omega), List.drop_append, hl, List.drop_eq_nil_of_le (by omega), List.nil_append, List.drop_drop, show n + (n + k - n) = n + k by omega]
/-- Where the reader stands. -/
inductive R2S (G : Gst) (X : L2P) (ea : Addr) (eT : TypeId) (ef : Nat × Nat) where
  | rd (K : CkR G X ea eT ef) (cl : List Ck) (fresh : Bool) (re : Nat)
  | fin
structure RdOk2 {G : Gst} {X : L2P} {ea : Addr} {eT : TypeId} {ef : Nat × Nat} (K : CkR G X ea eT ef) (cl : List Ck) (fresh : Bool) (re : Nat) : Prop where
  a : K.after = cksBytes cl
  f : fresh = true → re = K.pre
  r : K.pre ≤ re ∧ re ≤ K.pre + K.len
  m : RemOk X cl (K.pre + K.len)
  st : K.st = 83 ∨ K.st = 76 ∨ K.st = 82
abbrev rdCells {G : Gst} {X : L2P} {ea : Addr} {eT : TypeId} {ef : Nat × Nat} (K : CkR G X ea eT ef) (fresh : Bool) (re : Nat) : List Asn := [R2C X.rr X.Z.v .nilIface X.dd (ptV K.ur) (ptV K.dc) (.iface K.t K.u) K.st, K.St fresh re]
abbrev finCell (X : L2P) (ea : Addr) : Asn := Ex fun x : Value × Value × Value => [R2C X.rr X.Z.v (eofV ea) X.dd x.1 x.2.1 x.2.2 84]
theorem r2Fin_con (G : Gst) (X : L2P) (pv : Value) (ea : Addr) : Con Tryz.prog G 208 #[.pointer (some ⟨X.rr, 0, none⟩), pv] [finCell X ea] (fun _ : Unit => .tuple #[.int .i64 0, eofV ea]) (fun _ => [finCell X ea]) := by
  refine Con.intro Tryz.func208 rfl (by kernel_rfl) Tryz.ntmps208 (Nat.le_of_ble_eq_true rfl) ?_
  intro F
  show JC _ _ _ _ _ _ [(0, _), (1, _)] _ [_, _]
  refine JC.open xpick ?_
  rintro ⟨v1, v2, v3⟩
  show JC _ _ _ _ _ _ _ _ (_ :: _ :: _)
  dsimp only
  refine sR ?_
  refine oC ?_
  refine oC ?_
  refine nC (JC.seq (sR ?_))
  refine oM ?_
  first | refine JO.py (Py.nil xe) ?_ | refine JO.py (Py.nilI xe) ?_
  refine JO.py (Py.fld fld191_1 xe xoff) ?_
  refine JO.py (Py.load scal70 xe xpick xrow) ?_
  first | refine JO.py (Py.neqNil Tryz.underlying70 xe rfl) ?_ | refine JO.py (Py.neqHeld Tryz.underlying70 xe rfl) ?_
  refine nC ?_
  refine cT ?_
  refine JC.seq ?_
  refine JC.regionD mixed (by kernel_rfl) ?_
  refine JD.py (Py.move xe) ?_
  first | refine JD.py (Py.nil xe) ?_ | refine JD.py (Py.nilI xe) ?_
  refine JD.py (Py.fld fld191_1 xe xoff) ?_
  refine JD.py (Py.load scal70 xe xpick xrow) ?_
  refine JD.py (Py.assign ev_const) ?_
  refine JD.py (Py.assign xe) ?_
  refine JD.nilN (JX.code (JC.ret (JX.ret ?_)))
  refine JX.shut (f := fun x : Value × Value × Value => [R2C X.rr X.Z.v (eofV ea) X.dd x.1 x.2.1 x.2.2 84]) (v1, v2, v3) xpicks ?_
  refine JX.end2 (Or.inl rfl) (()) Tryz.results208 (tup2 ((xe).trans (by first | exact xval | (dsimp only; exact xval))) ((xe).trans (by first | exact xval | (dsimp only; exact xval)))) xpkE
def r2St {G : Gst} {X : L2P} {ea : Addr} {eT : TypeId} {ef : Nat × Nat} : Option (CkR G X ea eT ef × List Ck × Bool × Nat) → Asn
  | none => finCell X ea
  | some y => Ex fun _ : Unit => rdCells y.1 y.2.2.1 y.2.2.2
set_option maxRecDepth 100000 in
set_option maxHeartbeats 4000000 in
theorem r2Read_con (G : Gst) (X : L2P) (hX : X.Ok) (ea : Addr) (eT : TypeId) (ef : Nat × Nat) (K0 : CkR G X ea eT ef) (cl0 : List Ck) (f0 : Bool) (re0 : Nat) (h0 : RdOk2 K0 cl0 f0 re0) (pb : Nat) (ps : Array Value) (hps : ps.size = 512) :
    Con Tryz.prog G 208 #[.pointer (some ⟨X.rr, 0, none⟩), .slice (some ⟨pb, 0, none⟩) 512 512] [R2C X.rr X.Z.v .nilIface X.dd (ptV K0.ur) (ptV K0.dc) (.iface K0.t K0.u) K0.st, K0.St f0 re0, cel pb 5 ps, EofA ea eT ef]
      (fun x : {x : Option (CkR G X ea eT ef × List Ck × Bool × Nat) × Nat // x.2 ≤ 512 ∧ (x.1 = none → re0 + x.2 = X.all.length) ∧ (∀ y, x.1 = some y → RdOk2 y.1 y.2.1 y.2.2.1 y.2.2.2 ∧ y.2.2.2 = re0 + x.2 ∧ x.2 = 512)} => .tuple #[.int .i64 (x.1.2 : Int), if x.1.1.isNone then eofV ea else .nilIface])
      (fun x => [r2St x.1.1, cel pb 5 (splice ps 0 (piece X.all re0 x.1.2)), EofA ea eT ef]) := by
  refine Con.intro Tryz.func208 rfl (by kernel_rfl) Tryz.ntmps208 (Nat.le_of_ble_eq_true rfl) ?_
  intro F
  show JC _ _ _ _ _ _ [(0, _), (1, _)] _ [_, _, _, _, _]
  refine sR ?_
  refine oC ?_
  refine oC ?_
  refine nC (JC.seq (sR ?_))
  refine oM ?_
  first | refine JO.py (Py.nil xe) ?_ | refine JO.py (Py.nilI xe) ?_
  refine JO.py (Py.fld fld191_1 xe xoff) ?_
  refine JO.py (Py.load scal70 xe xpick xrow) ?_
  first | refine JO.py (Py.neqNil Tryz.underlying70 xe rfl) ?_ | refine JO.py (Py.neqHeld Tryz.underlying70 xe rfl) ?_
  refine nC ?_
  refine cF ?_
  refine JC.skip (JX.code (JC.seq (JC.block ?_)))
  refine JC.loop (ι := CkR G X ea eT ef × List Ck × Bool × Nat × Nat) (fun x => RdOk2 x.1 x.2.1 x.2.2.1 x.2.2.2.1 ∧ x.2.2.2.1 = re0 + x.2.2.2.2 ∧ x.2.2.2.2 ≤ 512) (fun x => [(0, .pointer (some ⟨X.rr, 0, none⟩)), (1, .slice (some ⟨pb, 0, none⟩) 512 512), (4, .int .i64 (x.2.2.2.2 : Int))])
    (fun x => [R2C X.rr X.Z.v .nilIface X.dd (ptV x.1.ur) (ptV x.1.dc) (.iface x.1.t x.1.u) x.1.st, x.1.St x.2.2.1 x.2.2.2.1, cel pb 5 (splice ps 0 (piece X.all re0 x.2.2.2.2)), EofA ea eT ef, F]) (fun x => 2 * x.2.1.length + (if x.2.2.2.2 < 512 then 1 else 0)) (K0, cl0, f0, re0, 0) ⟨h0, rfl, Nat.zero_le _⟩ xag (by dsimp only; rw [piece_zero, splice_nil]; exact xpkE) ?_
  rintro ⟨K, cl, fr, re, n⟩ base' ⟨h1, h2, h3⟩
  dsimp only at h1 h2 h3 ⊢
  subst h2
  have hlen := hX.len
  have hr := h1.r
  have hm := h1.m
  have hml := hm.le
  have hss : (splice ps 0 (piece X.all re0 n)).size = 512 := by rw [splice_size (by rw [piece_len]; omega), hps]
  by_cases hn : n < 512
  · skip
    have hc := K.con fr (re0 + n) pb n (512 - n) (512 - n) (splice ps 0 (piece X.all re0 n)) h1.f hr (by omega) (by omega) (Nat.le_refl _)
    rw [splice_cat (by rw [hps]; omega)] at hc
    refine JC.seq (sR ?_)
    refine oM ?_
    refine oM ?_
    refine JO.py (Py.lenS Tryz.underlying22 xe) ?_
    first | refine oD (Py.lss xe xe) ?_ | refine oU (Py.lss xe xe) ?_ | refine JO.py (Py.lss xe xe) ?_
    refine nC ?_
    refine cT ?_
    refine JC.skip (JX.code (JC.block (sR ?_)))
    refine oC ?_
    refine nC (JC.seq ?_)
    refine JC.regionM [(0, true), (1, true), (2, true), (3, true), (4, true), (5, true), (6, true), (7, true), (8, true), (9, false), (10, true), (11, true), (12, true), (13, true), (14, true)] mixed (by kernel_rfl) ?_
    refine JM.py ao ⟨fun _ => Py.move xe⟩ ?_
    first | refine JM.py ao ⟨fun _ => Py.nil xe⟩ ?_ | refine JM.py ao ⟨fun _ => Py.nilI xe⟩ ?_
    refine JM.py ao ⟨fun _ => Py.fld fld191_5 xe xoff⟩ ?_
    refine JM.ld ao scal113 xe xpick xrow ?_
    refine JM.py ao ⟨fun _ => Py.move xe⟩ ?_
    refine JM.py ao ⟨fun _ => Py.move xe⟩ ?_
    refine JM.py ao ⟨fun _ => Py.slc (l := n) (h := 512) (p := n) (q := 512 - n) (c := 512 - n) Tryz.underlying22 siz5 xe (Bd.some xe (by omega)) Bd.none (by omega) (by omega) (by omega) (by omega) (by omega) (by omega)⟩ ?_
    first | refine JM.py ao ⟨fun _ => Py.nil xe⟩ ?_ | refine JM.py ao ⟨fun _ => Py.nilI xe⟩ ?_
    refine JM.py ao ⟨fun _ => Py.move xe⟩ ?_
    refine JM.eff ao ?_
    refine JO.invoke xe (Evs.cons xe Evs.nil) (K.m) hc xpkE ?_
    rintro _
    show JO _ _ _ _ _ _ _ ((30, _) :: _) _ (_ :: _ :: _ :: _ :: _)
    by_cases hlt : K.pre + K.len - (re0 + n) < 512 - n
    · skip
      rw [if_pos hlt, if_pos hlt, show min (512 - n) (K.pre + K.len - (re0 + n)) = K.pre + K.len - (re0 + n) by omega]
      obtain ⟨k, hk⟩ : ∃ k, K.pre + K.len - (re0 + n) = k := ⟨_, rfl⟩
      rw [hk]
      have hpk : K.pre + K.len = re0 + (n + k) := by omega
      refine JO.nil ?_
      refine JX.mix (Kept.drop (Forced.trans (q := 8) (Forced.step (by kernel_rfl)) (Forced.step (by kernel_rfl))) Kept.nil) ?_
      refine JM.py ao ⟨fun _ => Py.move xe⟩ ?_
      refine JM.py ao ⟨fun _ => Py.extrI xe xix⟩ ?_
      refine JM.py ao ⟨fun _ => Py.extrI xe xix⟩ ?_
      refine JM.py ao ⟨fun _ => Py.assign xe⟩ ?_
      refine JM.py ao ⟨fun _ => Py.assign xe⟩ ?_
      refine JM.nil (JX.code (sR ?_))
      refine oM ?_
      refine oM ?_
      refine JO.py (Py.add xe xe wI) ?_
      refine oA ?_
      refine nC (JC.seq (sR ?_))
      refine oM ?_
      first | refine JO.py (Py.neqNil Tryz.underlying70 xe rfl) ?_ | refine JO.py (Py.neqHeld Tryz.underlying70 xe rfl) ?_
      refine nC ?_
      refine cT ?_
      refine JC.seq (sR ?_)
      refine oM ?_
      refine JO.py (Py.load scal70 ev_glob xpick xrow) ?_
      refine JO.py (Py.eqlSame Tryz.underlying70 comp215 Tryz.underlying215 siz217 xe xe) ?_
      refine nC ?_
      refine cT ?_
      refine sR ?_
      refine oM ?_
      rw [h1.a, hpk]
      rw [hpk] at hm
      rcases cl with _ | ⟨ck, cl⟩
      · skip
        have hend : re0 + (n + k) = X.all.length := by
          have := congrArg List.length hm.d
          rw [List.length_drop] at this
          have h4 := hm.le
          simp [cksData] at this
          omega
        rw [show cksBytes [] = [0] from rfl]
        refine JO.call (Evs.cons xe Evs.nil) (sc0_con G X hX K.ur K.dc (ptV K.ur) (ptV K.dc) (.iface K.t K.u) K.st (re0 + (n + k)) h1.st ea eT ef) xpkE ?_
        rintro _
        show JO _ _ _ _ _ _ _ ((42, _) :: _) _ (_ :: _ :: _ :: _)
        refine oA ?_
        refine nC (sR ?_)
        refine oM ?_
        first | refine JO.py (Py.eqlNil Tryz.underlying70 xe rfl) ?_ | refine JO.py (Py.eqlHeld Tryz.underlying70 xe rfl) ?_
        refine nC ?_
        refine cF ?_
        refine JC.skip (JX.code (sR ?_))
        refine oM ?_
        refine oM ?_
        first | refine JO.py (Py.nil xe) ?_ | refine JO.py (Py.nilI xe) ?_
        refine JO.py (Py.fld fld191_1 xe xoff) ?_
        refine JO.store siz70 xe xe (by first | rfl | assumption) xpick xsize xnorm ?_
        refine nC (sR ?_)
        refine oM ?_
        refine oM ?_
        refine oA ?_
        refine oA ?_
        refine nC (JC.ret (JX.ret (JX.blockR (JX.ret (JX.blockR (JX.ret ?_))))))
        refine JX.shut (f := fun x : Value × Value × Value => [R2C X.rr X.Z.v (eofV ea) X.dd x.1 x.2.1 x.2.2 84]) (ptV K.ur, ptV K.dc, .nilIface) xpicks ?_
        refine JX.as (A := finCell X ea) (A' := r2St (G := G) (X := X) (ea := ea) (eT := eT) (ef := ef) none) xpick (rfl) ?_
        refine JX.end2 (Or.inl rfl) (⟨(none, n + k), by dsimp only; omega, fun _ => hend, fun y h => by cases h⟩) Tryz.results208 (tup2 ((xe).trans (by first | exact xval | (dsimp only; exact xval))) ((xe).trans (by first | exact xval | (dsimp only; exact xval)))) xpkE
      · skip
        obtain ⟨hat, hrem⟩ := hm.at
        rw [show cksBytes (ck :: cl) = ck.bytes ++ cksBytes cl by simp [cksBytes]]
        refine JO.call (Evs.cons xe Evs.nil) (sc_con G X hX K.ur K.dc (.iface K.t K.u) K.st (re0 + (n + k)) ck (hm.ok ck (by simp)) hat (cksBytes cl) h1.st ea eT ef) xpkE ?_
        rintro ⟨K2, k1, k2, k3, k4⟩
        show JO _ _ _ _ _ _ _ ((42, _) :: _) _ (_ :: _ :: _ :: _ :: _)
        dsimp only
        refine oA ?_
        refine nC (sR ?_)
        refine oM ?_
        first | refine JO.py (Py.eqlNil Tryz.underlying70 xe rfl) ?_ | refine JO.py (Py.eqlHeld Tryz.underlying70 xe rfl) ?_
        refine nC ?_
        refine cT ?_
        refine JC.exit (JX.exit (JX.exit (JX.blockE ?_)))
        refine JX.loop (K2, cl, true, re0 + (n + k), n + k) ⟨⟨k3, fun _ => k1.symm, by dsimp only; omega, by rw [k1, k2]; exact hrem, k4⟩, rfl, by dsimp only; omega⟩ (by dsimp only; rw [if_pos hn]; simp only [List.length_cons]; split <;> omega) xag xpkE
    · skip
      rw [if_neg hlt, if_neg hlt, show min (512 - n) (K.pre + K.len - (re0 + n)) = 512 - n by omega, show re0 + n + (512 - n) = re0 + 512 by omega, show n + (512 - n) = 512 by omega]
      refine JO.nil ?_
      refine JX.mix (Kept.drop (Forced.trans (q := 8) (Forced.step (by kernel_rfl)) (Forced.step (by kernel_rfl))) Kept.nil) ?_
      refine JM.py ao ⟨fun _ => Py.move xe⟩ ?_
      refine JM.py ao ⟨fun _ => Py.extrI xe xix⟩ ?_
      refine JM.py ao ⟨fun _ => Py.extrI xe xix⟩ ?_
      refine JM.py ao ⟨fun _ => Py.assign xe⟩ ?_
      refine JM.py ao ⟨fun _ => Py.assign xe⟩ ?_
      refine JM.nil (JX.code (sR ?_))
      refine oM ?_
      refine oM ?_
      refine JO.py (Py.add xe xe wI) ?_
      refine oA ?_
      refine nC (JC.seq (sR ?_))
      refine oM ?_
      first | refine JO.py (Py.neqNil Tryz.underlying70 xe rfl) ?_ | refine JO.py (Py.neqHeld Tryz.underlying70 xe rfl) ?_
      refine nC ?_
      refine cF ?_
      refine JC.skip (JX.code (sR ?_))
      refine oM ?_
      first | refine oD (Py.eql xe ev_const) ?_ | refine oU (Py.eql xe ev_const) ?_ | refine JO.py (Py.eql xe ev_const) ?_
      refine nC ?_
      refine cF ?_
      refine JC.skip (JX.blockN ?_)
      refine JX.loop (K, cl, false, re0 + 512, 512) ⟨⟨h1.a, fun h => (by cases h), by dsimp only; omega, h1.m, h1.st⟩, rfl, Nat.le_refl _⟩ (by dsimp only; rw [if_pos hn]; simp) xag xpkE
  · skip
    obtain rfl : n = 512 := by omega
    refine JC.seq (sR ?_)
    refine oM ?_
    refine oM ?_
    refine JO.py (Py.lenS Tryz.underlying22 xe) ?_
    first | refine oD (Py.lss xe xe) ?_ | refine oU (Py.lss xe xe) ?_ | refine JO.py (Py.lss xe xe) ?_
    refine nC ?_
    refine cF ?_
    refine JC.exit (JX.exit (JX.exit (JX.blockE (JX.code (sR ?_)))))
    refine oM ?_
    refine oA ?_
    refine oC ?_
    refine nC (JC.ret ?_)
    refine JX.shut (f := fun _ : Unit => rdCells K fr (re0 + 512)) () xpicks ?_
    refine JX.as (A := Ex fun _ : Unit => rdCells K fr (re0 + 512)) (A' := r2St (some (K, cl, fr, re0 + 512))) xpick (rfl) ?_
    refine JX.end2 (Or.inl rfl) (⟨(some (K, cl, fr, re0 + 512), 512), Nat.le_refl _, fun h => (by cases h), fun y h => by cases h; exact ⟨h1, rfl, rfl⟩⟩) Tryz.results208 (tup2 ((xe).trans (by first | exact xval | (dsimp only; exact xval))) ((xe).trans (by first | exact xval | (dsimp only; exact xval)))) xpkE
end Go.Proofs.YtfpepghmbeoanaaGreatDoor
end

section
open Go Go.RowKit
namespace Go.Proofs.YtfpepghmbeoanaaGreatDoor
open Lz
theorem rc_con (G : Gst) (X : DecP G) (hX : X.Ok) (rc rb : Nat) (Z x : Value) (a b e ds size a2 b2 e2 ds2 size2 : Int) (fresh : Bool) (re pb : Nat) (ps : Array Value) (hf : fresh = true → re = X.pre) (hre : X.pre ≤ re ∧ re ≤ X.pre + X.bs.length) (hp : 512 ≤ ps.size) (ea : Addr) (eT : TypeId) (ef : Nat × Nat) :
    Con Tryz.prog G 190 #[.pointer (some ⟨rc, 0, none⟩), .slice (some ⟨pb, 0, none⟩) 512 512] [cel rc 119 #[Z, .iface 109 (.pointer (some ⟨rb, 0, none⟩))], RdrC rb x a b e ds size a2 b2 e2 ds2 size2 (.pointer (some ⟨X.d, 0, none⟩)), DecSt X fresh re, cel pb 5 ps, EofA ea eT ef]
      (fun _ : Unit => .tuple #[.int .i64 (min 512 (X.pre + X.bs.length - re) : Nat), if X.pre + X.bs.length - re < 512 then eofV ea else .nilIface])
      (fun _ => [cel rc 119 #[Z, .iface 109 (.pointer (some ⟨rb, 0, none⟩))], RdrC rb x a b e ds size a2 b2 e2 ds2 size2 (.pointer (some ⟨X.d, 0, none⟩)), DecSt X false (re + min 512 (X.pre + X.bs.length - re)), cel pb 5 (splice ps 0 (piece X.all re (min 512 (X.pre + X.bs.length - re)))), EofA ea eT ef]) := by
  have h := rdr_con G X hX rb x a b e ds size a2 b2 e2 ds2 size2 fresh re pb 0 512 512 ps hf hre (by omega) (by decide) (Nat.le_refl _) ea eT ef
  have hm := mth109R (.pointer (some ⟨rb, 0, none⟩))
  refine Con.intro Tryz.func190 rfl (by kernel_rfl) Tryz.ntmps190 (Nat.le_of_ble_eq_true rfl) ?_
  intro F
  show JC _ _ _ _ _ _ [(0, _), (1, _)] _ [_, _, _, _, _, _]
  refine sR ?_
  refine oC ?_
  refine oC ?_
  refine nC (JC.seq (sR ?_))
  refine oM ?_
  refine JO.py (Py.nil xe) ?_
  refine JO.py (Py.fld fld119_1 xe xoff) ?_
  refine JO.py (Py.load scal113 xe xpick xrow) ?_
  first | refine JO.py (Py.eqlNil Tryz.underlying113 xe rfl) ?_ | refine JO.py (Py.eqlHeld Tryz.underlying113 xe rfl) ?_
  refine nC ?_
  refine cF ?_
  refine JC.skip (JX.code (sR ?_))
  refine oM ?_
  refine JO.py (Py.nil xe) ?_
  refine JO.py (Py.fld fld119_1 xe xoff) ?_
  refine JO.py (Py.load scal113 xe xpick xrow) ?_
  refine oM ?_
  refine JO.invoke xe (Evs.cons xe Evs.nil) (hm) h xpkE ?_
  rintro _
  show JO _ _ _ _ _ _ _ ((20, _) :: _) _ (_ :: _ :: _ :: _ :: _ :: _)
  by_cases hlt : X.pre + X.bs.length - re < 512
  · skip
    rw [if_pos hlt]
    refine oM ?_
    refine JO.py (Py.extrI xe xix) ?_
    refine JO.py (Py.extrI xe xix) ?_
    refine oA ?_
    refine oA ?_
    refine nC (JC.seq (sR ?_))
    refine oM ?_
    first | refine JO.py (Py.neqNil Tryz.underlying70 xe rfl) ?_ | refine JO.py (Py.neqHeld Tryz.underlying70 xe rfl) ?_
    refine oM ?_
    first | (refine gT ?_; (refine oM ?_)) | refine kF ?_
    first | (refine gT ?_; (refine JO.py (Py.load scal70 ev_glob xpick xrow) ?_)) | refine kF ?_
    refine gT ?_
    refine JO.call (Evs.cons xe (Evs.cons xe Evs.nil)) (is_con G ea) xpkE ?_
    rintro _
    show JO _ _ _ _ _ _ _ ((28, _) :: _) _ (_ :: _)
    first | (refine gT ?_; (refine JO.py (Py.not xe (by first | with_reducible exact not_t | with_reducible exact not_f | exact rfl)) ?_)) | refine kF ?_
    first | refine JO.py (Py.pickT xe xe) ?_ | refine JO.py (Py.pickF xe ev_const) ?_
    refine nC ?_
    refine cF ?_
    refine JC.skip (JX.code (sR ?_))
    refine oM ?_
    refine oM ?_
    refine oA ?_
    refine oA ?_
    refine nC (JC.ret ?_)
    refine JX.end2 (Or.inl rfl) (()) Tryz.results190 (tup2 ((xe).trans (by first | exact xval | (dsimp only; exact xval))) ((xe).trans (by first | exact xval | (dsimp only; exact xval)))) xpkE
  · skip
    rw [if_neg hlt]
    refine oM ?_
    refine JO.py (Py.extrI xe xix) ?_
    refine JO.py (Py.extrI xe xix) ?_
    refine oA ?_
    refine oA ?_
    refine nC (JC.seq (sR ?_))
    refine oM ?_
    first | refine JO.py (Py.neqNil Tryz.underlying70 xe rfl) ?_ | refine JO.py (Py.neqHeld Tryz.underlying70 xe rfl) ?_
    refine oM ?_
    first | (refine gT ?_; (refine oM ?_)) | refine kF ?_
    first | (refine gT ?_; (refine JO.py (Py.load scal70 ev_glob xpick xrow) ?_)) | refine kF ?_
    refine kF ?_
    first | (refine gT ?_; (refine JO.py (Py.not xe (by first | with_reducible exact not_t | with_reducible exact not_f | exact rfl)) ?_)) | refine kF ?_
    first | refine JO.py (Py.pickT xe xe) ?_ | refine JO.py (Py.pickF xe ev_const) ?_
    refine nC ?_
    refine cF ?_
    refine JC.skip (JX.code (sR ?_))
    refine oM ?_
    refine oM ?_
    refine oA ?_
    refine oA ?_
    refine nC (JC.ret ?_)
    refine JX.end2 (Or.inl rfl) (()) Tryz.results190 (tup2 ((xe).trans (by first | exact xval | (dsimp only; exact xval))) ((xe).trans (by first | exact xval | (dsimp only; exact xval)))) xpkE
theorem ite_dec {p : Prop} [Decidable p] {a b : Value} : (if decide p = true then a else b) = if p then a else b := by by_cases h : p <;> simp [h]
/-- What LZMA's reader stands on. -/
abbrev LzI (G : Gst) (bs : List Nat) : Type := {x : Nat × Nat × Nat × Nat × DecP G // x.2.2.2.2.Ok ∧ x.2.2.2.2.pre = 0 ∧ x.2.2.2.2.bs = bs ∧ x.2.2.2.2.all = bs}
abbrev lzCells (G : Gst) (c : Cfg) (bs : List Nat) (z : Nat) (x : LzI G bs) (fresh : Bool) (re : Nat) : List Asn :=
  [cel x.1.2.1 119 #[.iface 88 (.agg #[.pointer (some ⟨x.1.1, 0, none⟩)]), .iface 109 (.pointer (some ⟨x.1.2.2.1, 0, none⟩))], RdrC x.1.2.2.1 (.iface 171 (.pointer (some ⟨x.1.2.2.2.1, 0, none⟩))) c.lc c.lp c.pb 4096 z c.lc c.lp c.pb 65536 z (.pointer (some ⟨x.1.2.2.2.2.d, 0, none⟩)), DecSt x.1.2.2.2.2 fresh re]
def lzRd (G : Gst) (ea : Addr) (eT : TypeId) (ef : Nat × Nat) (c : Cfg) (bs : List Nat) (z : Nat) (x : LzI G bs) : RdSrc G ea eT ef where
  σ := {s : Bool × Nat // s.2 ≤ bs.length ∧ (s.1 = true → s.2 = 0)}
  t := 115
  u := .pointer (some ⟨x.1.2.1, 0, none⟩)
  f := 190
  out := bs
  pos := fun s => s.1.2
  ms := fun s => bs.length - s.1.2
  A := fun s => Ex fun _ : Unit => lzCells G c bs z x s.1.1 s.1.2
  s0 := ⟨(true, 0), Nat.zero_le _, fun _ => rfl⟩
  p0 := rfl
  le := fun s => s.2.1
  m := mth115R _
  con := by
    rintro ⟨⟨fresh, re⟩, h1, h2⟩ pb
    obtain ⟨⟨r, rc, rd, mb, X⟩, hX, hp, hb, ha⟩ := x
    dsimp only at h1 h2 hX hp hb ha ⊢
    subst hb
    have h := rc_con G X hX rc rd (.iface 88 (.agg #[.pointer (some ⟨r, 0, none⟩)])) (.iface 171 (.pointer (some ⟨mb, 0, none⟩))) c.lc c.lp c.pb 4096 z c.lc c.lp c.pb 65536 z fresh re pb (Array.replicate 512 (.int .u8 0)) (by rw [hp]; exact h2) (by omega) (by simp) ea eT ef
    rw [hp, Nat.zero_add, ha] at h
    refine Con.conseq h fun F w hw => ?_
    obtain ⟨_, hw1⟩ := Sat.opens (f := fun _ : Unit => lzCells G c X.bs z ⟨(r, rc, rd, mb, X), hX, hp, rfl, ha⟩ fresh re) (l := [cel pb 5 (Array.replicate 512 (.int .u8 0)), EofA ea eT ef, F]) hw
    refine ⟨F, hw1, ?_⟩
    rintro _ w' hw'
    obtain ⟨n, hn⟩ : ∃ n, min 512 (X.bs.length - re) = n := ⟨_, rfl⟩
    rw [hn] at hw' ⊢
    refine ⟨⟨(⟨(false, re + n), by dsimp only; omega, fun h => by cases h⟩, n, decide (X.bs.length - re < 512)), rfl, by dsimp only; omega, ?_, ?_⟩, ?_, ?_⟩
    · intro h
      have := of_decide_eq_true h
      dsimp only; omega
    · intro h
      have := of_decide_eq_false h
      dsimp only; omega
    · exact congrArg (fun y => Value.tuple #[.int .i64 (n : Int), y]) ite_dec.symm
    · exact Sat.shuts (f := fun _ : Unit => lzCells G c X.bs z ⟨(r, rc, rd, mb, X), hX, hp, rfl, ha⟩ false (re + n)) () hw'
theorem newLzR_con (G : Gst) (pv sv : Value) (rb rc r : Nat) (rcur : Array Value) (hr0 : rcur[0]? = some (.iface 88 (.agg #[.pointer (some ⟨r, 0, none⟩)]))) (c : Cfg) (bs : List Nat) (l : List Sym) (x1 x2 x3 x4 : Nat) (xs : List Nat) (hs : StreamOk c bs l x1 x2 x3 x4 xs) (hx : ∀ x ∈ xs, x < 256) (hxl : xs.length ≤ 900000) (z : Nat) (hz : bs.length = z) (ea : Addr) (eT : TypeId) (ef : Nat × Nat) :
    Con Tryz.prog G 39 #[pv, .int .u64 (z : Int), .slice (some ⟨rb, 0, none⟩) 1 rc] [Row 5 pv (u8s ((c.lc + 9 * (c.lp + 5 * c.pb)) :: leN 65536 4)), cel rb 90 rcur, BrA r sv 0 (-1), Row 5 sv (u8s (0 :: x1 :: x2 :: x3 :: x4 :: xs)), EofA ea eT ef]
      (fun i : LzI G bs => .tuple #[.iface (lzRd G ea eT ef c bs z i).t (lzRd G ea eT ef c bs z i).u, .nilIface]) (fun i => [(lzRd G ea eT ef c bs z i).A (lzRd G ea eT ef c bs z i).s0, EofA ea eT ef]) := by
  have h := newLz_con G pv sv rb rc r rcur hr0 c bs l x1 x2 x3 x4 xs hs hx hxl z hz ea eT ef
  refine Con.conseq h fun F w hw => ⟨F, hw, ?_⟩
  rintro ⟨⟨rc', rd, mb, X⟩, hX⟩ w' hw'
  refine ⟨⟨(r, rc', rd, mb, X), hX⟩, rfl, ?_⟩
  exact Sat.shuts (f := fun _ : Unit => lzCells G c bs z ⟨(r, rc', rd, mb, X), hX⟩ true 0) () hw'
section
variable {P : Program} {G : Gst} {ops : Array Oper} {Q : Exit → Act → World → Prop} {n : Nat} {base : Nat → Value} {L : List (Nat × Value)} {D : List Deferred} {As r : List Asn}
theorem JC.rowSplit {e : TypeId} {v : Value} {xs : List Value} {l : Code} (q : Pick (Row e v xs) As r) (k1 : v = .slice none 0 0 → xs = [] → JC P G Q l n base L D As) (k : ∀ b cap cur, v = .slice (some ⟨b, 0, none⟩) xs.length cap → RowOf xs cap cur → JC P G Q l n base L D (cel b e cur :: r)) : JC P G Q l n base L D As :=
  ⟨fun w hw => by
    obtain ⟨h1, h2, hd, he, hA, hB⟩ := (hw.pick q).mem
    rcases hA with ⟨hv, hx⟩ | ⟨b, cap, cur, hv, hc, hlt, hs, ht, hb⟩
    · exact (k1 hv hx).run w hw
    · exact (k b cap cur hv ⟨hc, hlt, hs, ht⟩).run w ((hw.pick q).of fun _ => ⟨h1, h2, hd, he, hb, hB⟩)⟩
end
set_option maxRecDepth 100000 in
theorem cloneRow_con (G : Gst) (v : Value) (xs : List Nat) (hx : ∀ x ∈ xs, x < 256) (hl : xs.length ≤ 1000000) : Con Tryz.prog G 15 #[v] [Row 5 v (u8s xs)] (fun x : Value => x) (fun x => [Row 5 x (u8s xs)]) := by
  refine Con.intro Tryz.func15 rfl (by kernel_rfl) Tryz.ntmps15 (Nat.le_of_ble_eq_true rfl) ?_
  intro F
  show JC _ _ _ _ _ _ [(0, _)] _ [_, _]
  refine JC.rowSplit (e := 5) (v := v) (xs := u8s xs) xpick ?_ ?_
  · rintro rfl hxs
    rw [hxs]
    refine sR ?_
    refine oC ?_
    refine nC (JC.seq (sR ?_))
    refine oM ?_
    refine JO.py (Py.to (v' := .bool true) (Py.eqlSN Tryz.underlying22 xe) rfl) ?_
    refine nC ?_
    refine cT ?_
    refine sR ?_
    refine oC ?_
    refine nC (JC.ret (JX.ret ?_))
    refine JX.end1 (Or.inl rfl) (.slice none 0 0) Tryz.results15 ((xe).trans (by first | exact xval | (dsimp only; exact xval))) xpkE
  · rintro b cap cur rfl hr
    obtain ⟨m, hm⟩ : ∃ m, xs.length = m := ⟨_, rfl⟩
    have hsz := hr.size
    have hle := hr.le
    rw [u8s_len, hm] at hle ⊢
    refine sR ?_
    refine oC ?_
    refine nC (JC.seq (sR ?_))
    refine oM ?_
    refine JO.py (Py.to (v' := .bool false) (Py.eqlSN Tryz.underlying22 xe) rfl) ?_
    refine nC ?_
    refine cF ?_
    refine JC.skip (JX.code (sR ?_))
    refine JO.bslice Tryz.underlying22 elm5 Evs.nil rfl rfl (by first | (simp [Value.oneCell']; done) | (simp only [List.mem_cons, List.not_mem_nil, or_false, forall_eq]; assumption) | fail) (by decide) ?_; intro b5
    refine oM ?_
    refine JO.toRow (b := b5) (e := 5) (cur := #[]) (xs := u8s []) (m := 0) xpick rfl rfl (by decide) ?_
    refine JO.app Tryz.underlying22 elm5 xe xe xpick (Src.cel rfl xpick (by rw [Nat.zero_add, hsz]; exact hle) ((hr.rd hx).ext hm (by rw [Nat.zero_add, hsz]; exact hle)) u8s_one) (by simp [u8s]; omega) (by decide) ?_
    intro v7 ho7
    rw [show u8s [] ++ u8s xs = u8s xs from rfl]
    refine oA ?_
    refine nC (JC.ret ?_)
    refine JX.end1 (Or.inl rfl) (v7) Tryz.results15 ((xe).trans (by first | exact xval | (dsimp only; exact xval))) xpkE
/-- Which method an id names. -/
def IdOf (id : List Nat) (f : FuncId) : Prop := (id.map UInt8.ofNat = [3, 1, 1] ∧ f = 39) ∨ (id.map UInt8.ofNat = [33] ∧ f = 46) ∨ (id.map UInt8.ofNat = [3, 3, 1, 3] ∧ f = 40) ∨ (id.map UInt8.ofNat = [3, 3, 2, 5] ∧ f = 42) ∨ (id.map UInt8.ofNat = [3, 3, 5, 1] ∧ f = 43) ∨ (id.map UInt8.ofNat = [3, 3, 8, 5] ∧ f = 44)
set_option maxRecDepth 100000 in
theorem method_con (G : Gst) (ea : Addr) (eT : TypeId) (ef : Nat × Nat) (ib : Nat) (id : List Nat) (im : Nat) (him : id.length = im) (hid : ∀ x ∈ id, x < 256) (f : FuncId) (h : IdOf id f)
    (pv bv : Value) (z : Nat) (hz : z ≤ 60000) (st : List Nat) (hst : ∀ x ∈ st, x < 256) (hsl : st.length ≤ 1000000) (A : Asn) {ι : Type} (S : ι → RdSrc G ea eT ef) (out : List Nat) (hout : ∀ i, (S i).out = out) (holen : out.length ≤ 60000) (hob : ∀ x ∈ out, x < 256)
    (hnew : ∀ sv rb rc r rcur, rcur[0]? = some (.iface 88 (.agg #[.pointer (some ⟨r, 0, none⟩)])) → Con Tryz.prog G f #[pv, .int .u64 (z : Int), .slice (some ⟨rb, 0, none⟩) 1 rc] [A, cel rb 90 rcur, BrA r sv 0 (-1), Row 5 sv (u8s st), EofA ea eT ef]
      (fun i : ι => .tuple #[.iface (S i).t (S i).u, .nilIface]) (fun i => [(S i).A (S i).s0, EofA ea eT ef])) :
    Con Tryz.prog G 14 #[.slice (some ⟨ib, 0, none⟩) im im, pv, .int .i64 (z : Int), bv] [cel ib 5 (u8s id).toArray, A, Row 5 bv (u8s st), EofA ea eT ef]
      (fun v : Value => .tuple #[v, .bool true]) (fun v => [Row 5 v (u8s out), EofA ea eT ef]) := by
  refine Con.intro Tryz.func14 rfl (by kernel_rfl) Tryz.ntmps14 (Nat.le_of_ble_eq_true rfl) ?_
  intro F
  show JC _ _ _ _ _ _ [(0, _), (1, _), (2, _), (3, _)] _ [_, _, _, _, _]
  refine sR ?_
  refine oC ?_
  refine oC ?_
  refine nC (sR ?_)
  refine oM ?_
  refine oM ?_
  refine oM ?_
  first | refine JO.py (Py.conv cnv3_43 xe (w_u64 (by omega))) ?_ | refine JO.py (Py.conv cnv3_43 xe (m_u64 _)) ?_
  refine oM ?_
  refine JO.call (Evs.cons xe Evs.nil) (cloneRow_con G bv st hst hsl) xpkE ?_
  rintro sv
  show JO _ _ _ _ _ _ _ ((18, _) :: _) _ (_ :: _ :: _)
  refine JO.rowV (e := 5) (v := sv) (xs := u8s st) xpick ?_
  intro a_ c_ hsv _
  have hs1 : sv.oneCell' = true := by rw [hsv]; rfl
  refine JO.bslice Tryz.underlying68 elm22 (Evs.cons xe Evs.nil) rfl rfl (by first | (simp [Value.oneCell']; done) | (simp only [List.mem_cons, List.not_mem_nil, or_false, forall_eq]; assumption) | fail) (by decide) ?_; intro b19
  refine JO.call (Evs.cons xe (Evs.cons xe (Evs.cons xe (Evs.cons xe (Evs.cons ev_const Evs.nil))))) (zz_con G ea eT ef ib id im him hid f h pv sv hs1 z b19 st A S out hout holen (hnew sv)) xpkE ?_
  rintro ov
  show JO _ _ _ _ _ _ _ ((20, _) :: _) _ (_ :: _ :: _ :: _)
  refine oM ?_
  refine JO.py (Py.extrI xe xix) ?_
  refine JO.py (Py.extrI xe xix) ?_
  refine oA ?_
  refine oA ?_
  refine nC (JC.seq (sR ?_))
  refine oM ?_
  first | refine JO.py (Py.neqNil Tryz.underlying70 xe rfl) ?_ | refine JO.py (Py.neqHeld Tryz.underlying70 xe rfl) ?_
  refine nC ?_
  refine cF ?_
  refine JC.skip (JX.code (sR ?_))
  refine oM ?_
  refine JO.call (Evs.cons xe Evs.nil) (cloneRow_con G ov out hob (by omega)) xpkE ?_
  rintro v
  show JO _ _ _ _ _ _ _ ((26, _) :: _) _ (_ :: _ :: _)
  refine oA ?_
  refine oC ?_
  refine nC (JC.ret ?_)
  refine JX.end2 (Or.inl rfl) (v) Tryz.results14 (tup2 ((xe).trans (by first | exact xval | (dsimp only; exact xval))) ((xe).trans (by first | exact xval | (dsimp only; exact xval)))) xpkE
theorem implLz_con (G : Gst) (ea : Addr) (eT : TypeId) (ef : Nat × Nat) (pv bv : Value) (c : Cfg) (bs : List Nat) (l : List Sym) (x1 x2 x3 x4 : Nat) (xs : List Nat) (hs : StreamOk c bs l x1 x2 x3 x4 xs) (hx : ∀ x ∈ 0 :: x1 :: x2 :: x3 :: x4 :: xs, x < 256) (hxl : xs.length ≤ 900000) (z : Nat) (hz : bs.length = z) :
    Con Tryz.prog G 7 #[pv, .int .i64 (z : Int), bv] [Row 5 pv (u8s ((c.lc + 9 * (c.lp + 5 * c.pb)) :: leN 65536 4)), Row 5 bv (u8s (0 :: x1 :: x2 :: x3 :: x4 :: xs)), EofA ea eT ef]
      (fun v : Value => .tuple #[v, .bool true]) (fun v => [Row 5 v (u8s bs), EofA ea eT ef]) := by
  have h1 := hs.ok.l
  have h2 := hs.ok.p
  have hlen := hs.len
  have hpx : ∀ x ∈ (c.lc + 9 * (c.lp + 5 * c.pb)) :: leN 65536 4, x < 256 := by
    intro x hxm
    simp only [List.mem_cons] at hxm
    rcases hxm with rfl | h
    · omega
    · exact leN_lt _ _ _ h
  refine Con.intro Tryz.func7 rfl (by kernel_rfl) Tryz.ntmps7 (Nat.le_of_ble_eq_true rfl) ?_
  intro F
  show JC _ _ _ _ _ _ [(0, _), (1, _), (2, _)] _ [_, _, _, _]
  refine sR ?_
  refine oC ?_
  refine oC ?_
  refine nC (sR ?_)
  refine JO.bslice Tryz.underlying22 elm5 (Evs.cons ev_const (Evs.cons ev_const (Evs.cons ev_const Evs.nil))) rfl rfl (by first | (simp [Value.oneCell']; done) | (simp only [List.mem_cons, List.not_mem_nil, or_false, forall_eq]; assumption) | fail) (by decide) ?_; intro b8
  refine oM ?_
  refine JO.call (Evs.cons xe Evs.nil) (cloneRow_con G pv _ hpx (by simp [leN])) xpkE ?_
  rintro qv
  show JO _ _ _ _ _ _ _ ((10, _) :: _) _ (_ :: _ :: _)
  refine oM ?_
  refine oM ?_
  refine JO.as (A := cel b8 5 #[.int .u8 3, .int .u8 1, .int .u8 1]) (A' := cel b8 5 (u8s [3, 1, 1]).toArray) xpick (rfl) ?_
  refine JO.call (Evs.cons xe (Evs.cons xe (Evs.cons xe (Evs.cons xe Evs.nil)))) (method_con G ea eT ef b8 [3, 1, 1] 3 rfl (by decide) 39 (.inl ⟨rfl, rfl⟩) qv bv z (by omega) (0 :: x1 :: x2 :: x3 :: x4 :: xs) hx (by simp; omega) (Row 5 qv (u8s ((c.lc + 9 * (c.lp + 5 * c.pb)) :: leN 65536 4))) (lzRd G ea eT ef c bs z) bs (fun _ => rfl) (by omega) hs.by' (fun sv rb rc r rcur hr0 => newLzR_con G qv sv rb rc r rcur hr0 c bs l x1 x2 x3 x4 xs hs (fun x h => hx x (by simp [h])) hxl z hz ea eT ef)) xpkE ?_
  rintro v
  show JO _ _ _ _ _ _ _ ((13, _) :: _) _ (_ :: _ :: _ :: _)
  refine JO.py (Py.extrI xe xix) ?_
  refine JO.py (Py.extrI xe xix) ?_
  refine oA ?_
  refine oA ?_
  refine nC (JC.ret ?_)
  refine JX.end2 (Or.inl rfl) (v) Tryz.results7 (tup2 ((xe).trans (by first | exact xval | (dsimp only; exact xval))) ((xe).trans (by first | exact xval | (dsimp only; exact xval)))) xpkE
end Go.Proofs.YtfpepghmbeoanaaGreatDoor
end
