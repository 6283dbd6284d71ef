/-
The decoder: literals and repetitions are read.
The decoder: one operation is read and done.
The decoder: a piece is decoded whole.
-/
import Derived.Test.YtfpepghmbeoanaaGreatDoorP08
set_option linter.unusedSimpArgs false
set_option linter.unusedVariables false
section
open Go Go.RowKit
namespace Go.Proofs.YtfpepghmbeoanaaGreatDoor
open Lz
set_option linter.unusedSimpArgs false
set_option linter.unusedVariables false
set_option maxRecDepth 100000 in
set_option maxHeartbeats 4000000 in
theorem readLit_con (G : Gst) (S : ByteSrc G) (T : Tab) (c : Cfg) (hc : c.Ok) (hR : RowsD T c) (M : PM) (hM : PMok M) (q : Regs) (d dd db sb g start size n fr re hd v old : Nat) (all : List Nat) (l : List Ev) (hall : ∀ x ∈ all, x < 256) (hn : 1 ≤ n ∧ n ≤ 100000) (h : hd + 1 < n) (hf : hd ≤ fr ∧ fr < n)
    (hv : v < 256) (hst : q.st < 12) (hr : q.r0 < 4294967296) (hold : 7 ≤ q.st → byteAt all fr hd (q.r0 + 1) = old) :
    Con Tryz.prog G 154 #[.pointer (some ⟨d, 0, none⟩)] [DecC d dd sb g start size false, DictC dd db n fr re hd, DictD db all fr n, cel sb 270 (stC T M c q), ChD T M, DecS g S M (.bit 0 (16 * q.st + c.pos hd) false :: (litEv 21 (768 * c.ls (byteAt all fr hd 1) hd) v q.st old ++ l))] (fun _ : Unit => .tuple #[.iface 347 (.agg #[.int .u8 (v : Int)]), .nilIface])
      (fun _ => [DecC d dd sb g start size false, DictC dd db n fr re hd, DictD db all fr n, cel sb 270 (stC T (evsM M (.bit 0 (16 * q.st + c.pos hd) false :: litEv 21 (768 * c.ls (byteAt all fr hd 1) hd) v q.st old)) c ⟨q.r0, q.r1, q.r2, q.r3, litSt q.st⟩), ChD T (evsM M (.bit 0 (16 * q.st + c.pos hd) false :: litEv 21 (768 * c.ls (byteAt all fr hd 1) hd) v q.st old)), DecS g S (evsM M (.bit 0 (16 * q.st + c.pos hd) false :: litEv 21 (768 * c.ls (byteAt all fr hd 1) hd) v q.st old)) l]) := by
  have tf : false.toNat = 0 := rfl
  have hpb : 2 ^ c.pb ≤ 2 ^ 4 := Nat.pow_le_pow_right (by decide) hc.p
  have hpos : c.pos hd < 16 := by
    have := Nat.mod_lt hd (show 0 < 2 ^ c.pb from Nat.pow_pos (by decide))
    unfold Cfg.pos; omega
  obtain ⟨pos, hposd⟩ : ∃ x, c.pos hd = x := ⟨_, rfl⟩
  rw [hposd] at hpos ⊢
  have p0 : (0, 4, 192) ∈ places := by simp [places]
  simp only [evsM_cons]
  refine Con.intro Tryz.func154 rfl (by kernel_rfl) Tryz.ntmps154 (Nat.le_of_ble_eq_true rfl) ?_
  intro F
  show JC _ _ _ _ _ _ [(0, _)] _ [_, _, _, _, _, _, _]
  refine JC.seq (JC.region ?_)
  refine JO.py (Py.assign ev_const) ?_
  refine JO.py (Py.assign ev_const) ?_
  refine JO.nil (JX.code (JC.seq ?_))
  refine JC.regionM [(0, true), (1, true), (2, true), (3, true), (4, true), (5, true), (6, true), (7, true), (8, true), (9, true), (10, true), (11, false), (12, true), (13, true), (14, true), (15, true), (16, true), (17, true), (18, true)] mixed (by kernel_rfl) ?_
  refine JM.py Ao0 ⟨fun _ => Py.move xe⟩ ?_
  refine JM.py Ao1 ⟨fun _ => Py.nil xe⟩ ?_
  refine JM.py Ao2 ⟨fun _ => Py.fld fld237_1 xe xoff⟩ ?_
  refine JM.ld Ao3 scal204 xe xpick xrow ?_
  refine JM.py Ao4 ⟨fun _ => Py.move xe⟩ ?_
  refine JM.py Ao5 ⟨fun _ => Py.nil xe⟩ ?_
  refine JM.py Ao6 ⟨fun _ => Py.fld fld237_0 xe xoff⟩ ?_
  refine JM.ld Ao7 scal187 xe xpick xrow ?_
  refine JM.py Ao8 ⟨fun _ => Py.nil xe⟩ ?_
  refine JM.py Ao9 ⟨fun _ => Py.fld fld223_1 xe xoff⟩ ?_
  refine JM.ld Ao10 scal2 xe xpick xrow ?_
  refine JM.eff Ao11 ?_
  refine JO.call (Evs.cons xe (Evs.cons xe Evs.nil)) (states_con G T M c hc q hst sb hd (by omega)) xpkE ?_
  rintro _
  show JO _ _ _ _ _ _ _ ((26, _) :: _) _ (_ :: _ :: _)
  rw [hposd]
  refine JO.nil ?_
  refine JX.mix (Kept.drop (Forced.step (by kernel_rfl)) (Kept.drop (Forced.trans (q := 8) (Forced.step (by kernel_rfl)) (Forced.trans (q := 9) (Forced.step (by kernel_rfl)) (Forced.trans (q := 10) (Forced.step (by kernel_rfl)) (Forced.step (by kernel_rfl))))) (Kept.drop (Forced.step (by kernel_rfl)) Kept.nil))) ?_
  refine JM.py Ao12 ⟨fun _ => Py.move xe⟩ ?_
  refine JM.py Ao13 ⟨fun _ => Py.extrI xe xix⟩ ?_
  refine JM.py Ao14 ⟨fun _ => Py.extrI xe xix⟩ ?_
  refine JM.py Ao15 ⟨fun _ => Py.extrI xe xix⟩ ?_
  refine JM.py Ao16 ⟨fun _ => Py.assign xe⟩ ?_
  refine JM.py Ao17 ⟨fun _ => Py.assign xe⟩ ?_
  refine JM.py Ao18 ⟨fun _ => Py.assign xe⟩ ?_
  refine JM.nil (JX.code (JC.seq ?_))
  refine JC.regionM [(0, true), (1, true), (2, true), (3, true), (4, true), (5, true), (6, true), (7, true), (8, true), (9, true), (10, true), (11, true), (12, false), (13, true), (14, true), (15, true), (16, true), (17, true)] mixed (by kernel_rfl) ?_
  refine JM.py Ao0 ⟨fun _ => Py.move xe⟩ ?_
  refine JM.py Ao1 ⟨fun _ => Py.nil xe⟩ ?_
  refine JM.py Ao2 ⟨fun _ => Py.fld fld237_1 xe xoff⟩ ?_
  refine JM.ld Ao3 scal204 xe xpick xrow ?_
  refine JM.py Ao4 ⟨fun _ => Py.move xe⟩ ?_
  refine JM.py Ao5 ⟨fun _ => Py.nil xe⟩ ?_
  refine JM.py Ao6 ⟨fun _ => Py.fld fld270_1 xe xoff⟩ ?_
  refine JM.py Ao7 ⟨fun _ => Py.idxA Tryz.underlying251 siz250 xe xe (by omega) xidx xmult⟩ ?_
  refine JM.py Ao8 ⟨fun _ => Py.move xe⟩ ?_
  refine JM.py Ao9 ⟨fun _ => Py.nil xe⟩ ?_
  refine JM.py Ao10 ⟨fun _ => Py.fld fld237_2 xe xoff⟩ ?_
  refine JM.ld Ao11 scal235 xe xpick xrow ?_
  refine JM.eff Ao12 ?_
  refine JO.call (Evs.cons xe (Evs.cons xe Evs.nil)) (dbitS G g S hM _ c q sb p0 (ix := 16 * q.st + pos) (by omega) (hR.no _ _ _ p0) false) xpkE ?_
  rintro _
  show JO _ _ _ _ _ _ _ ((43, _) :: _) _ (_ :: _ :: _ :: _ :: _)
  have hM1 := evM_ok hM (.bit 0 (16 * q.st + pos) false)
  refine JO.nil ?_
  refine JX.mix (Kept.drop (Forced.step (by kernel_rfl)) (Kept.drop (Forced.trans (q := 5) (Forced.step (by kernel_rfl)) (Forced.trans (q := 6) (Forced.step (by kernel_rfl)) (Forced.trans (q := 7) (Forced.step (by kernel_rfl)) (Forced.step (by kernel_rfl))))) Kept.nil)) ?_
  refine JM.py Ao13 ⟨fun _ => Py.move xe⟩ ?_
  refine JM.py Ao14 ⟨fun _ => Py.extrI xe xix⟩ ?_
  refine JM.py Ao15 ⟨fun _ => Py.extrI xe xix⟩ ?_
  refine JM.py Ao16 ⟨fun _ => Py.assign xe⟩ ?_
  refine JM.py Ao17 ⟨fun _ => Py.assign xe⟩ ?_
  refine JM.nil (JX.code (JC.seq (JC.seq (JC.region ?_))))
  refine JO.py (Py.move xe) ?_
  first | refine JO.py (Py.neqNil Tryz.underlying70 xe rfl) ?_ | refine JO.py (Py.neqHeld Tryz.underlying70 xe rfl) ?_
  refine JO.nil (JX.code ?_)
  first | refine JC.condF xe ?_ | refine JC.condF ((xe).trans (vbool (decide_eq_false (by omega)))) ?_
  refine JC.skip (JX.code (JC.seq (JC.seq (JC.region ?_))))
  refine JO.py (Py.move xe) ?_
  first | refine JO.py (Py.dec (Py.eql xe ev_const) (by omega)) ?_ | refine JO.py (Py.undec (Py.eql xe ev_const) (by omega)) ?_ | refine JO.py (Py.eql xe ev_const) ?_
  refine JO.nil (JX.code ?_)
  first | refine JC.condT xe ?_ | refine JC.condT ((xe).trans (vbool (decide_eq_true (by omega)))) ?_
  refine JC.seq (JC.region ?_)
  refine JO.py (Py.move xe) ?_
  refine JO.call (Evs.cons xe Evs.nil) (decLit_con G S T c hc hR _ hM1 q d dd db sb g start size n fr re hd v old all l hall hn h hf hv hst hr hold) xpkE ?_
  rintro _
  show JO _ _ _ _ _ _ _ ((53, _) :: _) _ (_ :: _ :: _ :: _ :: _ :: _ :: _ :: _)
  refine JO.py (Py.move xe) ?_
  refine JO.py (Py.extrI xe xix) ?_
  refine JO.py (Py.extrI xe xix) ?_
  refine JO.py (Py.assign xe) ?_
  refine JO.py (Py.assign xe) ?_
  refine JO.nil (JX.code (JC.seq (JC.seq (JC.region ?_))))
  refine JO.py (Py.move xe) ?_
  first | refine JO.py (Py.neqNil Tryz.underlying70 xe rfl) ?_ | refine JO.py (Py.neqHeld Tryz.underlying70 xe rfl) ?_
  refine JO.nil (JX.code ?_)
  first | refine JC.condF xe ?_ | refine JC.condF ((xe).trans (vbool (decide_eq_false (by omega)))) ?_
  refine JC.skip (JX.code (JC.seq (JC.region ?_)))
  refine JO.py (Py.move xe) ?_
  refine JO.py (Py.nil xe) ?_
  refine JO.py (Py.fld fld237_1 xe xoff) ?_
  refine JO.py (Py.load scal204 xe xpick xrow) ?_
  refine JO.call (Evs.cons xe Evs.nil) (updLit_con G T _ c q hst sb) xpkE ?_
  rintro _
  show JO _ _ _ _ _ _ _ ((63, _) :: _) _ (_ :: _ :: _)
  refine JO.as (A := cel sb 270 _) (A' := cel sb 270 (stC T (evsM (evM M (.bit 0 (16 * q.st + pos) false)) (litEv 21 (768 * c.ls (byteAt all fr hd 1) hd) v q.st old)) c ⟨q.r0, q.r1, q.r2, q.r3, litSt q.st⟩)) xpick (cel_eq (by exact rfl)) ?_
  refine JO.nil (JX.code (JC.seq (JC.region ?_)))
  refine JO.py (Py.move xe) ?_
  refine JO.py (Py.assign xe) ?_
  refine JO.py (Py.assign ev_const) ?_
  refine JO.nil (JX.code (JC.ret (JX.ret ?_)))
  refine JX.end2 (Or.inl rfl) (()) Tryz.results154 (tup2 ((xe).trans (by first | exact xval | (dsimp only; exact xval))) ((xe).trans (by first | exact xval | (dsimp only; exact xval)))) xpkE
def repT (st p k : Nat) : List Ev := if k = 0 then [.bit 5 (16 * st + p) true] else if k = 1 then [.bit 3 st false] else [.bit 3 st true, .bit 4 st (k == 3)]
theorem repEv_eq (st p k : Nat) : repEv st p k = .bit 2 st (k != 0) :: repT st p k := by
  unfold repEv repT
  by_cases h : k = 0
  · subst h; rfl
  · have : (k != 0) = true := by simpa using h
    rw [if_neg h, if_neg h, this]
    split <;> rfl
def Regs.rot (q : Regs) (k : Nat) : Regs := ⟨q.r k, if k = 0 then q.r1 else q.r0, if k ≤ 1 then q.r2 else q.r1, if k ≤ 2 then q.r3 else q.r2, q.st⟩
theorem rot0 (q : Regs) : q.rot 0 = q := rfl
theorem rot1 (q : Regs) : q.rot 1 = ⟨q.r1, q.r0, q.r2, q.r3, q.st⟩ := rfl
theorem rot2 (q : Regs) : q.rot 2 = ⟨q.r2, q.r0, q.r1, q.r3, q.st⟩ := rfl
theorem rot3 (q : Regs) : q.rot 3 = ⟨q.r3, q.r0, q.r1, q.r2, q.st⟩ := rfl
section
variable {T : Tab} {M : PM} {c : Cfg}
theorem stC_rot1 (q : Regs) : ((stC T M c q).setIfInBounds 1 (.int .u32 (q.r0 : Nat))).setIfInBounds 0 (.int .u32 (q.r1 : Nat)) = stC T M c ⟨q.r1, q.r0, q.r2, q.r3, q.st⟩ := by
  obtain ⟨a, b, e, f, s⟩ := q
  rw [stC_set1, stC_set0]
theorem stC_rot2 (q : Regs) : (((stC T M c q).setIfInBounds 2 (.int .u32 (q.r1 : Nat))).setIfInBounds 1 (.int .u32 (q.r0 : Nat))).setIfInBounds 0 (.int .u32 (q.r2 : Nat)) = stC T M c ⟨q.r2, q.r0, q.r1, q.r3, q.st⟩ := by
  obtain ⟨a, b, e, f, s⟩ := q
  rw [stC_set2, stC_set1, stC_set0]
theorem stC_rot3 (q : Regs) : ((((stC T M c q).setIfInBounds 3 (.int .u32 (q.r2 : Nat))).setIfInBounds 2 (.int .u32 (q.r1 : Nat))).setIfInBounds 1 (.int .u32 (q.r0 : Nat))).setIfInBounds 0 (.int .u32 (q.r3 : Nat)) = stC T M c ⟨q.r3, q.r0, q.r1, q.r2, q.st⟩ := by
  obtain ⟨a, b, e, f, s⟩ := q
  rw [stC_set3, stC_set2, stC_set1, stC_set0]
end
set_option maxRecDepth 100000 in
set_option maxHeartbeats 8000000 in
theorem readRep_con (G : Gst) (S : ByteSrc G) (T : Tab) (c : Cfg) (hc : c.Ok) (hR : RowsD T c) (M : PM) (hM : PMok M) (q : Regs) (d dd db sb g start size n fr re hd m k : Nat) (all : List Nat) (l : List Ev) (hh : hd < 100000)
    (hst : q.st < 12) (hm : 2 ≤ m ∧ m ≤ 273) (hk : k < 4) (hr : q.r k < 4294967296) :
    Con Tryz.prog G 154 #[.pointer (some ⟨d, 0, none⟩)] [DecC d dd sb g start size false, DictC dd db n fr re hd, DictD db all fr n, cel sb 270 (stC T M c q), ChD T M, DecS g S M (.bit 0 (16 * q.st + c.pos hd) true :: .bit 1 q.st true :: (repEv q.st (c.pos hd) k ++ (lenEv repI m (c.pos hd) ++ l)))] (fun _ : Unit => .tuple #[.iface 344 (.agg #[.int .i64 (q.r k + 1 : Nat), .int .i64 (m : Nat)]), .nilIface])
      (fun _ => [DecC d dd sb g start size false, DictC dd db n fr re hd, DictD db all fr n, cel sb 270 (stC T (evsM (evsM (evM (evM M (.bit 0 (16 * q.st + c.pos hd) true)) (.bit 1 q.st true)) (repEv q.st (c.pos hd) k)) (lenEv repI m (c.pos hd))) c { q.rot k with st := matSt q.st 8 11 }), ChD T (evsM (evsM (evM (evM M (.bit 0 (16 * q.st + c.pos hd) true)) (.bit 1 q.st true)) (repEv q.st (c.pos hd) k)) (lenEv repI m (c.pos hd))), DecS g S (evsM (evsM (evM (evM M (.bit 0 (16 * q.st + c.pos hd) true)) (.bit 1 q.st true)) (repEv q.st (c.pos hd) k)) (lenEv repI m (c.pos hd))) l]) := by
  have tf : false.toNat = 0 := rfl
  have tt : true.toNat = 1 := rfl
  have hpb : 2 ^ c.pb ≤ 2 ^ 4 := Nat.pow_le_pow_right (by decide) hc.p
  have hpos : c.pos hd < 16 := by
    have := Nat.mod_lt hd (show 0 < 2 ^ c.pb from Nat.pow_pos (by decide))
    unfold Cfg.pos; omega
  obtain ⟨pos, hposd⟩ : ∃ x, c.pos hd = x := ⟨_, rfl⟩
  rw [hposd] at hpos ⊢
  have p0 : (0, 4, 192) ∈ places := by simp [places]
  have p1 : (1, 388, 12) ∈ places := by simp [places]
  have p2 : (2, 400, 12) ∈ places := by simp [places]
  have p3 : (3, 412, 12) ∈ places := by simp [places]
  have p4 : (4, 424, 12) ∈ places := by simp [places]
  have p5 : (5, 196, 192) ∈ places := by simp [places]
  have pr : (repI.c, 505, 2) ∈ places := by simp [places, repI]
  rw [repEv_eq]
  simp only [List.cons_append, evsM_cons]
  refine Con.intro Tryz.func154 rfl (by kernel_rfl) Tryz.ntmps154 (Nat.le_of_ble_eq_true rfl) ?_
  intro F
  show JC _ _ _ _ _ _ [(0, _)] _ [_, _, _, _, _, _, _]
  refine JC.seq (JC.region ?_)
  refine JO.py (Py.assign ev_const) ?_
  refine JO.py (Py.assign ev_const) ?_
  refine JO.nil (JX.code (JC.seq ?_))
  refine JC.regionM [(0, true), (1, true), (2, true), (3, true), (4, true), (5, true), (6, true), (7, true), (8, true), (9, true), (10, true), (11, false), (12, true), (13, true), (14, true), (15, true), (16, true), (17, true), (18, true)] mixed (by kernel_rfl) ?_
  refine JM.py Ao0 ⟨fun _ => Py.move xe⟩ ?_
  refine JM.py Ao1 ⟨fun _ => Py.nil xe⟩ ?_
  refine JM.py Ao2 ⟨fun _ => Py.fld fld237_1 xe xoff⟩ ?_
  refine JM.ld Ao3 scal204 xe xpick xrow ?_
  refine JM.py Ao4 ⟨fun _ => Py.move xe⟩ ?_
  refine JM.py Ao5 ⟨fun _ => Py.nil xe⟩ ?_
  refine JM.py Ao6 ⟨fun _ => Py.fld fld237_0 xe xoff⟩ ?_
  refine JM.ld Ao7 scal187 xe xpick xrow ?_
  refine JM.py Ao8 ⟨fun _ => Py.nil xe⟩ ?_
  refine JM.py Ao9 ⟨fun _ => Py.fld fld223_1 xe xoff⟩ ?_
  refine JM.ld Ao10 scal2 xe xpick xrow ?_
  refine JM.eff Ao11 ?_
  refine JO.call (Evs.cons xe (Evs.cons xe Evs.nil)) (states_con G T M c hc q hst sb hd (by omega)) xpkE ?_
  rintro _
  show JO _ _ _ _ _ _ _ ((26, _) :: _) _ (_ :: _ :: _)
  rw [hposd]
  refine JO.nil ?_
  refine JX.mix (Kept.drop (Forced.step (by kernel_rfl)) (Kept.drop (Forced.trans (q := 8) (Forced.step (by kernel_rfl)) (Forced.trans (q := 9) (Forced.step (by kernel_rfl)) (Forced.trans (q := 10) (Forced.step (by kernel_rfl)) (Forced.step (by kernel_rfl))))) (Kept.drop (Forced.step (by kernel_rfl)) Kept.nil))) ?_
  refine JM.py Ao12 ⟨fun _ => Py.move xe⟩ ?_
  refine JM.py Ao13 ⟨fun _ => Py.extrI xe xix⟩ ?_
  refine JM.py Ao14 ⟨fun _ => Py.extrI xe xix⟩ ?_
  refine JM.py Ao15 ⟨fun _ => Py.extrI xe xix⟩ ?_
  refine JM.py Ao16 ⟨fun _ => Py.assign xe⟩ ?_
  refine JM.py Ao17 ⟨fun _ => Py.assign xe⟩ ?_
  refine JM.py Ao18 ⟨fun _ => Py.assign xe⟩ ?_
  refine JM.nil (JX.code (JC.seq ?_))
  refine JC.regionM [(0, true), (1, true), (2, true), (3, true), (4, true), (5, true), (6, true), (7, true), (8, true), (9, true), (10, true), (11, true), (12, false), (13, true), (14, true), (15, true), (16, true), (17, true)] mixed (by kernel_rfl) ?_
  refine JM.py Ao0 ⟨fun _ => Py.move xe⟩ ?_
  refine JM.py Ao1 ⟨fun _ => Py.nil xe⟩ ?_
  refine JM.py Ao2 ⟨fun _ => Py.fld fld237_1 xe xoff⟩ ?_
  refine JM.ld Ao3 scal204 xe xpick xrow ?_
  refine JM.py Ao4 ⟨fun _ => Py.move xe⟩ ?_
  refine JM.py Ao5 ⟨fun _ => Py.nil xe⟩ ?_
  refine JM.py Ao6 ⟨fun _ => Py.fld fld270_1 xe xoff⟩ ?_
  refine JM.py Ao7 ⟨fun _ => Py.idxA Tryz.underlying251 siz250 xe xe (by omega) xidx xmult⟩ ?_
  refine JM.py Ao8 ⟨fun _ => Py.move xe⟩ ?_
  refine JM.py Ao9 ⟨fun _ => Py.nil xe⟩ ?_
  refine JM.py Ao10 ⟨fun _ => Py.fld fld237_2 xe xoff⟩ ?_
  refine JM.ld Ao11 scal235 xe xpick xrow ?_
  refine JM.eff Ao12 ?_
  refine JO.call (Evs.cons xe (Evs.cons xe Evs.nil)) (dbitS G g S hM _ c q sb p0 (ix := 16 * q.st + pos) (by omega) (hR.no _ _ _ p0) true) xpkE ?_
  rintro _
  show JO _ _ _ _ _ _ _ ((43, _) :: _) _ (_ :: _ :: _ :: _ :: _)
  have hM1 := evM_ok hM (.bit 0 (16 * q.st + pos) true)
  refine JO.nil ?_
  refine JX.mix (Kept.drop (Forced.step (by kernel_rfl)) (Kept.drop (Forced.trans (q := 5) (Forced.step (by kernel_rfl)) (Forced.trans (q := 6) (Forced.step (by kernel_rfl)) (Forced.trans (q := 7) (Forced.step (by kernel_rfl)) (Forced.step (by kernel_rfl))))) Kept.nil)) ?_
  refine JM.py Ao13 ⟨fun _ => Py.move xe⟩ ?_
  refine JM.py Ao14 ⟨fun _ => Py.extrI xe xix⟩ ?_
  refine JM.py Ao15 ⟨fun _ => Py.extrI xe xix⟩ ?_
  refine JM.py Ao16 ⟨fun _ => Py.assign xe⟩ ?_
  refine JM.py Ao17 ⟨fun _ => Py.assign xe⟩ ?_
  refine JM.nil (JX.code (JC.seq (JC.seq (JC.region ?_))))
  refine JO.py (Py.move xe) ?_
  first | refine JO.py (Py.neqNil Tryz.underlying70 xe rfl) ?_ | refine JO.py (Py.neqHeld Tryz.underlying70 xe rfl) ?_
  refine JO.nil (JX.code ?_)
  first | refine JC.condF xe ?_ | refine JC.condF ((xe).trans (vbool (decide_eq_false (by omega)))) ?_
  refine JC.skip (JX.code (JC.seq (JC.seq (JC.region ?_))))
  refine JO.py (Py.move xe) ?_
  first | refine JO.py (Py.dec (Py.eql xe ev_const) (by omega)) ?_ | refine JO.py (Py.undec (Py.eql xe ev_const) (by omega)) ?_ | refine JO.py (Py.eql xe ev_const) ?_
  refine JO.nil (JX.code ?_)
  first | refine JC.condF xe ?_ | refine JC.condF ((xe).trans (vbool (decide_eq_false (by omega)))) ?_
  refine JC.skip (JX.code (JC.seq ?_))
  refine JC.regionM [(0, true), (1, true), (2, true), (3, true), (4, true), (5, true), (6, true), (7, true), (8, true), (9, true), (10, true), (11, true), (12, false), (13, true), (14, true), (15, true), (16, true), (17, true)] mixed (by kernel_rfl) ?_
  refine JM.py Ao0 ⟨fun _ => Py.move xe⟩ ?_
  refine JM.py Ao1 ⟨fun _ => Py.nil xe⟩ ?_
  refine JM.py Ao2 ⟨fun _ => Py.fld fld237_1 xe xoff⟩ ?_
  refine JM.ld Ao3 scal204 xe xpick xrow ?_
  refine JM.py Ao4 ⟨fun _ => Py.move xe⟩ ?_
  refine JM.py Ao5 ⟨fun _ => Py.nil xe⟩ ?_
  refine JM.py Ao6 ⟨fun _ => Py.fld fld270_3 xe xoff⟩ ?_
  refine JM.py Ao7 ⟨fun _ => Py.idxA Tryz.underlying252 siz250 xe xe (by omega) xidx xmult⟩ ?_
  refine JM.py Ao8 ⟨fun _ => Py.move xe⟩ ?_
  refine JM.py Ao9 ⟨fun _ => Py.nil xe⟩ ?_
  refine JM.py Ao10 ⟨fun _ => Py.fld fld237_2 xe xoff⟩ ?_
  refine JM.ld Ao11 scal235 xe xpick xrow ?_
  refine JM.eff Ao12 ?_
  refine JO.call (Evs.cons xe (Evs.cons xe Evs.nil)) (dbitS G g S hM1 _ c q sb p1 (ix := q.st) (by omega) (hR.no _ _ _ p1) true) xpkE ?_
  rintro _
  show JO _ _ _ _ _ _ _ ((78, _) :: _) _ (_ :: _ :: _ :: _ :: _)
  have hM2 := evM_ok hM1 (.bit 1 q.st true)
  refine JO.nil ?_
  refine JX.mix (Kept.drop (Forced.step (by kernel_rfl)) (Kept.drop (Forced.trans (q := 5) (Forced.step (by kernel_rfl)) (Forced.trans (q := 6) (Forced.step (by kernel_rfl)) (Forced.trans (q := 7) (Forced.step (by kernel_rfl)) (Forced.step (by kernel_rfl))))) Kept.nil)) ?_
  refine JM.py Ao13 ⟨fun _ => Py.move xe⟩ ?_
  refine JM.py Ao14 ⟨fun _ => Py.extrI xe xix⟩ ?_
  refine JM.py Ao15 ⟨fun _ => Py.extrI xe xix⟩ ?_
  refine JM.py Ao16 ⟨fun _ => Py.assign xe⟩ ?_
  refine JM.py Ao17 ⟨fun _ => Py.assign xe⟩ ?_
  refine JM.nil (JX.code (JC.seq (JC.seq (JC.region ?_))))
  refine JO.py (Py.move xe) ?_
  first | refine JO.py (Py.neqNil Tryz.underlying70 xe rfl) ?_ | refine JO.py (Py.neqHeld Tryz.underlying70 xe rfl) ?_
  refine JO.nil (JX.code ?_)
  first | refine JC.condF xe ?_ | refine JC.condF ((xe).trans (vbool (decide_eq_false (by omega)))) ?_
  refine JC.skip (JX.code (JC.seq (JC.seq (JC.region ?_))))
  refine JO.py (Py.move xe) ?_
  first | refine JO.py (Py.dec (Py.eql xe ev_const) (by omega)) ?_ | refine JO.py (Py.undec (Py.eql xe ev_const) (by omega)) ?_ | refine JO.py (Py.eql xe ev_const) ?_
  refine JO.nil (JX.code ?_)
  first | refine JC.condF xe ?_ | refine JC.condF ((xe).trans (vbool (decide_eq_false (by omega)))) ?_
  refine JC.skip (JX.code (JC.seq ?_))
  refine JC.regionM [(0, true), (1, true), (2, true), (3, true), (4, true), (5, true), (6, true), (7, true), (8, true), (9, true), (10, true), (11, true), (12, false), (13, true), (14, true), (15, true), (16, true), (17, true)] mixed (by kernel_rfl) ?_
  refine JM.py Ao0 ⟨fun _ => Py.move xe⟩ ?_
  refine JM.py Ao1 ⟨fun _ => Py.nil xe⟩ ?_
  refine JM.py Ao2 ⟨fun _ => Py.fld fld237_1 xe xoff⟩ ?_
  refine JM.ld Ao3 scal204 xe xpick xrow ?_
  refine JM.py Ao4 ⟨fun _ => Py.move xe⟩ ?_
  refine JM.py Ao5 ⟨fun _ => Py.nil xe⟩ ?_
  refine JM.py Ao6 ⟨fun _ => Py.fld fld270_4 xe xoff⟩ ?_
  refine JM.py Ao7 ⟨fun _ => Py.idxA Tryz.underlying252 siz250 xe xe (by omega) xidx xmult⟩ ?_
  refine JM.py Ao8 ⟨fun _ => Py.move xe⟩ ?_
  refine JM.py Ao9 ⟨fun _ => Py.nil xe⟩ ?_
  refine JM.py Ao10 ⟨fun _ => Py.fld fld237_2 xe xoff⟩ ?_
  refine JM.ld Ao11 scal235 xe xpick xrow ?_
  refine JM.eff Ao12 ?_
  refine JO.call (Evs.cons xe (Evs.cons xe Evs.nil)) (dbitS G g S hM2 _ c q sb p2 (ix := q.st) (by omega) (hR.no _ _ _ p2) (k != 0)) xpkE ?_
  rintro _
  show JO _ _ _ _ _ _ _ ((221, _) :: _) _ (_ :: _ :: _ :: _ :: _)
  have hM3 := evM_ok hM2 (.bit 2 q.st (k != 0))
  refine JO.nil ?_
  refine JX.mix (Kept.drop (Forced.step (by kernel_rfl)) (Kept.drop (Forced.trans (q := 5) (Forced.step (by kernel_rfl)) (Forced.trans (q := 6) (Forced.step (by kernel_rfl)) (Forced.trans (q := 7) (Forced.step (by kernel_rfl)) (Forced.step (by kernel_rfl))))) Kept.nil)) ?_
  refine JM.py Ao13 ⟨fun _ => Py.move xe⟩ ?_
  refine JM.py Ao14 ⟨fun _ => Py.extrI xe xix⟩ ?_
  refine JM.py Ao15 ⟨fun _ => Py.extrI xe xix⟩ ?_
  refine JM.py Ao16 ⟨fun _ => Py.assign xe⟩ ?_
  refine JM.py Ao17 ⟨fun _ => Py.assign xe⟩ ?_
  refine JM.nil (JX.code (JC.seq (JC.seq (JC.region ?_))))
  refine JO.py (Py.move xe) ?_
  first | refine JO.py (Py.neqNil Tryz.underlying70 xe rfl) ?_ | refine JO.py (Py.neqHeld Tryz.underlying70 xe rfl) ?_
  refine JO.nil (JX.code ?_)
  first | refine JC.condF xe ?_ | refine JC.condF ((xe).trans (vbool (decide_eq_false (by omega)))) ?_
  refine JC.skip (JX.code (JC.seq ?_))
  refine JC.renD xpick xpick xpick ?_
  intro M3 hM3d
  rw [← hM3d] at hM3
  have r0 := stC_r0 (T := T) (M := M3) (c := c) (q := q)
  refine JC.region ?_
  refine JO.py (Py.move xe) ?_
  refine JO.py (Py.nil xe) ?_
  refine JO.py (Py.fld fld237_1 xe xoff) ?_
  refine JO.py (Py.load scal204 xe xpick xrow) ?_
  refine JO.py (Py.nil xe) ?_
  refine JO.py (Py.fld fld270_0 xe xoff) ?_
  refine JO.py (Py.idxA Tryz.underlying249 siz45 xe ev_const (by omega) xidx xmult) ?_
  refine JO.py (Py.load scal45 xe xpick xrow) ?_
  refine JO.py (Py.assign xe) ?_
  refine JO.nil (JX.code (JC.seq (JC.seq (JC.region ?_))))
  refine JO.py (Py.move xe) ?_
  first | refine JO.py (Py.dec (Py.eql xe ev_const) (by omega)) ?_ | refine JO.py (Py.undec (Py.eql xe ev_const) (by omega)) ?_ | refine JO.py (Py.eql xe ev_const) ?_
  refine JO.nil (JX.code ?_)
  refine JC.mid (ι := Unit) (fun _ => [(0, .pointer (some ⟨d, 0, none⟩)), (6, .int .u32 pos), (12, .int .u32 (q.r k : Nat))]) (fun _ => [DecC d dd sb g start size false, DictC dd db n fr re hd, DictD db all fr n, cel sb 270 (stC T (evsM M3 (repT q.st pos k)) c (q.rot k)), ChD T (evsM M3 (repT q.st pos k)), DecS g S (evsM M3 (repT q.st pos k)) (lenEv repI m pos ++ l), F]) ?_ ?_
  · skip
    have hk' : k = 0 ∨ k = 1 ∨ k = 2 ∨ k = 3 := by omega
    rcases hk' with rfl | rfl | rfl | rfl
    · skip
      have nb : (0 != 0).toNat = 0 := rfl
      refine JC.as (A := DecS g S M3 (repT q.st pos 0 ++ (lenEv repI m pos ++ l))) (A' := DecS g S M3 (.bit 5 (16 * q.st + pos) true :: (lenEv repI m pos ++ l))) xpick (rfl) ?_
      first | refine JC.condT xe ?_ | refine JC.condT ((xe).trans (vbool (decide_eq_true (by omega)))) ?_
      refine JC.seq ?_
      refine JC.regionM [(0, true), (1, true), (2, true), (3, true), (4, true), (5, true), (6, true), (7, true), (8, true), (9, true), (10, true), (11, true), (12, false), (13, true), (14, true), (15, true), (16, true), (17, true)] mixed (by kernel_rfl) ?_
      refine JM.py Ao0 ⟨fun _ => Py.move xe⟩ ?_
      refine JM.py Ao1 ⟨fun _ => Py.nil xe⟩ ?_
      refine JM.py Ao2 ⟨fun _ => Py.fld fld237_1 xe xoff⟩ ?_
      refine JM.ld Ao3 scal204 xe xpick xrow ?_
      refine JM.py Ao4 ⟨fun _ => Py.move xe⟩ ?_
      refine JM.py Ao5 ⟨fun _ => Py.nil xe⟩ ?_
      refine JM.py Ao6 ⟨fun _ => Py.fld fld270_2 xe xoff⟩ ?_
      refine JM.py Ao7 ⟨fun _ => Py.idxA Tryz.underlying251 siz250 xe xe (by omega) xidx xmult⟩ ?_
      refine JM.py Ao8 ⟨fun _ => Py.move xe⟩ ?_
      refine JM.py Ao9 ⟨fun _ => Py.nil xe⟩ ?_
      refine JM.py Ao10 ⟨fun _ => Py.fld fld237_2 xe xoff⟩ ?_
      refine JM.ld Ao11 scal235 xe xpick xrow ?_
      refine JM.eff Ao12 ?_
      refine JO.call (Evs.cons xe (Evs.cons xe Evs.nil)) (dbitS G g S hM3 _ c q sb p5 (ix := 16 * q.st + pos) (by omega) (hR.no _ _ _ p5) true) xpkE ?_
      rintro _
      show JO _ _ _ _ _ _ _ ((250, _) :: _) _ (_ :: _ :: _ :: _ :: _)
      refine JO.nil ?_
      refine JX.mix (Kept.drop (Forced.step (by kernel_rfl)) (Kept.drop (Forced.trans (q := 5) (Forced.step (by kernel_rfl)) (Forced.trans (q := 6) (Forced.step (by kernel_rfl)) (Forced.trans (q := 7) (Forced.step (by kernel_rfl)) (Forced.step (by kernel_rfl))))) Kept.nil)) ?_
      refine JM.py Ao13 ⟨fun _ => Py.move xe⟩ ?_
      refine JM.py Ao14 ⟨fun _ => Py.extrI xe xix⟩ ?_
      refine JM.py Ao15 ⟨fun _ => Py.extrI xe xix⟩ ?_
      refine JM.py Ao16 ⟨fun _ => Py.assign xe⟩ ?_
      refine JM.py Ao17 ⟨fun _ => Py.assign xe⟩ ?_
      refine JM.nil (JX.code (JC.seq (JC.seq (JC.region ?_))))
      refine JO.py (Py.move xe) ?_
      first | refine JO.py (Py.neqNil Tryz.underlying70 xe rfl) ?_ | refine JO.py (Py.neqHeld Tryz.underlying70 xe rfl) ?_
      refine JO.nil (JX.code ?_)
      first | refine JC.condF xe ?_ | refine JC.condF ((xe).trans (vbool (decide_eq_false (by omega)))) ?_
      refine JC.skip (JX.code (JC.seq (JC.region ?_)))
      refine JO.py (Py.move xe) ?_
      first | refine JO.py (Py.dec (Py.eql xe ev_const) (by omega)) ?_ | refine JO.py (Py.undec (Py.eql xe ev_const) (by omega)) ?_ | refine JO.py (Py.eql xe ev_const) ?_
      refine JO.nil (JX.code ?_)
      first | refine JC.condF xe ?_ | refine JC.condF ((xe).trans (vbool (decide_eq_false (by omega)))) ?_
      refine JC.skip ?_
      refine JX.cut () xag (by rw [rot0, show repT q.st pos 0 = [.bit 5 (16 * q.st + pos) true] from rfl]; exact xpkE) rfl
    · skip
      have nb : (1 != 0).toNat = 1 := rfl
      refine JC.as (A := DecS g S M3 (repT q.st pos 1 ++ (lenEv repI m pos ++ l))) (A' := DecS g S M3 (.bit 3 q.st false :: (lenEv repI m pos ++ l))) xpick (rfl) ?_
      first | refine JC.condF xe ?_ | refine JC.condF ((xe).trans (vbool (decide_eq_false (by omega)))) ?_
      refine JC.seq ?_
      refine JC.regionM [(0, true), (1, true), (2, true), (3, true), (4, true), (5, true), (6, true), (7, true), (8, true), (9, true), (10, true), (11, true), (12, false), (13, true), (14, true), (15, true), (16, true), (17, true)] mixed (by kernel_rfl) ?_
      refine JM.py Ao0 ⟨fun _ => Py.move xe⟩ ?_
      refine JM.py Ao1 ⟨fun _ => Py.nil xe⟩ ?_
      refine JM.py Ao2 ⟨fun _ => Py.fld fld237_1 xe xoff⟩ ?_
      refine JM.ld Ao3 scal204 xe xpick xrow ?_
      refine JM.py Ao4 ⟨fun _ => Py.move xe⟩ ?_
      refine JM.py Ao5 ⟨fun _ => Py.nil xe⟩ ?_
      refine JM.py Ao6 ⟨fun _ => Py.fld fld270_5 xe xoff⟩ ?_
      refine JM.py Ao7 ⟨fun _ => Py.idxA Tryz.underlying252 siz250 xe xe (by omega) xidx xmult⟩ ?_
      refine JM.py Ao8 ⟨fun _ => Py.move xe⟩ ?_
      refine JM.py Ao9 ⟨fun _ => Py.nil xe⟩ ?_
      refine JM.py Ao10 ⟨fun _ => Py.fld fld237_2 xe xoff⟩ ?_
      refine JM.ld Ao11 scal235 xe xpick xrow ?_
      refine JM.eff Ao12 ?_
      refine JO.call (Evs.cons xe (Evs.cons xe Evs.nil)) (dbitS G g S hM3 _ c q sb p3 (ix := q.st) (by omega) (hR.no _ _ _ p3) false) xpkE ?_
      rintro _
      show JO _ _ _ _ _ _ _ ((282, _) :: _) _ (_ :: _ :: _ :: _ :: _)
      refine JO.nil ?_
      refine JX.mix (Kept.drop (Forced.step (by kernel_rfl)) (Kept.drop (Forced.trans (q := 5) (Forced.step (by kernel_rfl)) (Forced.trans (q := 6) (Forced.step (by kernel_rfl)) (Forced.trans (q := 7) (Forced.step (by kernel_rfl)) (Forced.step (by kernel_rfl))))) Kept.nil)) ?_
      refine JM.py Ao13 ⟨fun _ => Py.move xe⟩ ?_
      refine JM.py Ao14 ⟨fun _ => Py.extrI xe xix⟩ ?_
      refine JM.py Ao15 ⟨fun _ => Py.extrI xe xix⟩ ?_
      refine JM.py Ao16 ⟨fun _ => Py.assign xe⟩ ?_
      refine JM.py Ao17 ⟨fun _ => Py.assign xe⟩ ?_
      refine JM.nil (JX.code (JC.seq (JC.seq (JC.region ?_))))
      refine JO.py (Py.move xe) ?_
      first | refine JO.py (Py.neqNil Tryz.underlying70 xe rfl) ?_ | refine JO.py (Py.neqHeld Tryz.underlying70 xe rfl) ?_
      refine JO.nil (JX.code ?_)
      first | refine JC.condF xe ?_ | refine JC.condF ((xe).trans (vbool (decide_eq_false (by omega)))) ?_
      refine JC.skip (JX.code (JC.seq (JC.seq (JC.region ?_))))
      refine JO.py (Py.move xe) ?_
      first | refine JO.py (Py.dec (Py.eql xe ev_const) (by omega)) ?_ | refine JO.py (Py.undec (Py.eql xe ev_const) (by omega)) ?_ | refine JO.py (Py.eql xe ev_const) ?_
      refine JO.nil (JX.code ?_)
      first | refine JC.condT xe ?_ | refine JC.condT ((xe).trans (vbool (decide_eq_true (by omega)))) ?_
      refine JC.renD xpick xpick xpick ?_
      intro M4 hM4d
      have y0 := stC_r0 (T := T) (M := M4) (c := c) (q := q)
      have y1 := stC_r1 (T := T) (M := M4) (c := c) (q := q)
      have z1 := stC_lt (T := T) (M := M4) (c := c) (q := q) (i := 1) (by decide)
      have z0 := set_lt (k := 1) (w := .int .u32 (q.r0 : Nat)) (stC_lt (T := T) (M := M4) (c := c) (q := q) (i := 0) (by decide))
      refine JC.region ?_
      refine JO.py (Py.move xe) ?_
      refine JO.py (Py.nil xe) ?_
      refine JO.py (Py.fld fld237_1 xe xoff) ?_
      refine JO.py (Py.load scal204 xe xpick xrow) ?_
      refine JO.py (Py.nil xe) ?_
      refine JO.py (Py.fld fld270_0 xe xoff) ?_
      refine JO.py (Py.idxA Tryz.underlying249 siz45 xe ev_const (by omega) xidx xmult) ?_
      refine JO.py (Py.load scal45 xe xpick xrow) ?_
      refine JO.py (Py.assign xe) ?_
      refine JO.nil (JX.code (JC.seq ?_))
      refine JC.regionM [(0, true), (1, true), (2, true), (3, true), (4, true), (5, true), (6, true), (7, true), (8, true), (9, true), (10, true), (11, true), (12, true), (13, true), (14, true), (15, false)] mixed (by kernel_rfl) ?_
      refine JM.py Ao0 ⟨fun _ => Py.move xe⟩ ?_
      refine JM.py Ao1 ⟨fun _ => Py.nil xe⟩ ?_
      refine JM.py Ao2 ⟨fun _ => Py.fld fld237_1 xe xoff⟩ ?_
      refine JM.ld Ao3 scal204 xe xpick xrow ?_
      refine JM.py Ao4 ⟨fun _ => Py.move xe⟩ ?_
      refine JM.py Ao5 ⟨fun _ => Py.nil xe⟩ ?_
      refine JM.py Ao6 ⟨fun _ => Py.fld fld237_1 xe xoff⟩ ?_
      refine JM.ld Ao7 scal204 xe xpick xrow ?_
      refine JM.py Ao8 ⟨fun _ => Py.nil xe⟩ ?_
      refine JM.py Ao9 ⟨fun _ => Py.fld fld270_0 xe xoff⟩ ?_
      refine JM.py Ao10 ⟨fun _ => Py.idxA Tryz.underlying249 siz45 xe ev_const (by omega) xidx xmult⟩ ?_
      refine JM.ld Ao11 scal45 xe xpick xrow ?_
      refine JM.py Ao12 ⟨fun _ => Py.nil xe⟩ ?_
      refine JM.py Ao13 ⟨fun _ => Py.fld fld270_0 xe xoff⟩ ?_
      refine JM.py Ao14 ⟨fun _ => Py.idxA Tryz.underlying249 siz45 xe ev_const (by omega) xidx xmult⟩ ?_
      refine JM.eff Ao15 ?_
      refine JO.store siz45 xe xe (by first | rfl | assumption) xpick xsize xnorm ?_
      refine JO.nil ?_
      refine JX.mix (Kept.drop (Forced.step (by kernel_rfl)) (Kept.drop (Forced.step (by kernel_rfl)) (Kept.drop (Forced.step (by kernel_rfl)) Kept.nil))) ?_
      refine JM.nil (JX.code (JC.region ?_))
      refine JO.py (Py.move xe) ?_
      refine JO.py (Py.nil xe) ?_
      refine JO.py (Py.fld fld237_1 xe xoff) ?_
      refine JO.py (Py.load scal204 xe xpick xrow) ?_
      refine JO.py (Py.move xe) ?_
      refine JO.py (Py.nil xe) ?_
      refine JO.py (Py.fld fld270_0 xe xoff) ?_
      refine JO.py (Py.idxA Tryz.underlying249 siz45 xe ev_const (by omega) xidx xmult) ?_
      refine JO.store siz45 xe xe (by first | rfl | assumption) xpick xsize xnorm ?_
      refine JO.nil ?_
      refine JX.as (A := cel sb 270 _) (A' := cel sb 270 (stC T M4 c ⟨q.r1, q.r0, q.r2, q.r3, q.st⟩)) xpick (cel_eq (by exact stC_rot1 q)) ?_
      subst hM4d
      refine JX.cut () xag (by rw [rot1, show repT q.st pos 1 = [.bit 3 q.st false] from rfl]; exact xpkE) rfl
    · skip
      have nb : (2 != 0).toNat = 1 := rfl
      refine JC.as (A := DecS g S M3 (repT q.st pos 2 ++ (lenEv repI m pos ++ l))) (A' := DecS g S M3 (.bit 3 q.st true :: .bit 4 q.st false :: (lenEv repI m pos ++ l))) xpick (rfl) ?_
      first | refine JC.condF xe ?_ | refine JC.condF ((xe).trans (vbool (decide_eq_false (by omega)))) ?_
      refine JC.seq ?_
      refine JC.regionM [(0, true), (1, true), (2, true), (3, true), (4, true), (5, true), (6, true), (7, true), (8, true), (9, true), (10, true), (11, true), (12, false), (13, true), (14, true), (15, true), (16, true), (17, true)] mixed (by kernel_rfl) ?_
      refine JM.py Ao0 ⟨fun _ => Py.move xe⟩ ?_
      refine JM.py Ao1 ⟨fun _ => Py.nil xe⟩ ?_
      refine JM.py Ao2 ⟨fun _ => Py.fld fld237_1 xe xoff⟩ ?_
      refine JM.ld Ao3 scal204 xe xpick xrow ?_
      refine JM.py Ao4 ⟨fun _ => Py.move xe⟩ ?_
      refine JM.py Ao5 ⟨fun _ => Py.nil xe⟩ ?_
      refine JM.py Ao6 ⟨fun _ => Py.fld fld270_5 xe xoff⟩ ?_
      refine JM.py Ao7 ⟨fun _ => Py.idxA Tryz.underlying252 siz250 xe xe (by omega) xidx xmult⟩ ?_
      refine JM.py Ao8 ⟨fun _ => Py.move xe⟩ ?_
      refine JM.py Ao9 ⟨fun _ => Py.nil xe⟩ ?_
      refine JM.py Ao10 ⟨fun _ => Py.fld fld237_2 xe xoff⟩ ?_
      refine JM.ld Ao11 scal235 xe xpick xrow ?_
      refine JM.eff Ao12 ?_
      refine JO.call (Evs.cons xe (Evs.cons xe Evs.nil)) (dbitS G g S hM3 _ c q sb p3 (ix := q.st) (by omega) (hR.no _ _ _ p3) true) xpkE ?_
      rintro _
      show JO _ _ _ _ _ _ _ ((282, _) :: _) _ (_ :: _ :: _ :: _ :: _)
      refine JO.nil ?_
      refine JX.mix (Kept.drop (Forced.step (by kernel_rfl)) (Kept.drop (Forced.trans (q := 5) (Forced.step (by kernel_rfl)) (Forced.trans (q := 6) (Forced.step (by kernel_rfl)) (Forced.trans (q := 7) (Forced.step (by kernel_rfl)) (Forced.step (by kernel_rfl))))) Kept.nil)) ?_
      refine JM.py Ao13 ⟨fun _ => Py.move xe⟩ ?_
      refine JM.py Ao14 ⟨fun _ => Py.extrI xe xix⟩ ?_
      refine JM.py Ao15 ⟨fun _ => Py.extrI xe xix⟩ ?_
      refine JM.py Ao16 ⟨fun _ => Py.assign xe⟩ ?_
      refine JM.py Ao17 ⟨fun _ => Py.assign xe⟩ ?_
      refine JM.nil (JX.code (JC.seq (JC.seq (JC.region ?_))))
      refine JO.py (Py.move xe) ?_
      first | refine JO.py (Py.neqNil Tryz.underlying70 xe rfl) ?_ | refine JO.py (Py.neqHeld Tryz.underlying70 xe rfl) ?_
      refine JO.nil (JX.code ?_)
      first | refine JC.condF xe ?_ | refine JC.condF ((xe).trans (vbool (decide_eq_false (by omega)))) ?_
      refine JC.skip (JX.code (JC.seq (JC.seq (JC.region ?_))))
      refine JO.py (Py.move xe) ?_
      first | refine JO.py (Py.dec (Py.eql xe ev_const) (by omega)) ?_ | refine JO.py (Py.undec (Py.eql xe ev_const) (by omega)) ?_ | refine JO.py (Py.eql xe ev_const) ?_
      refine JO.nil (JX.code ?_)
      first | refine JC.condF xe ?_ | refine JC.condF ((xe).trans (vbool (decide_eq_false (by omega)))) ?_
      refine JC.seq ?_
      refine JC.regionM [(0, true), (1, true), (2, true), (3, true), (4, true), (5, true), (6, true), (7, true), (8, true), (9, true), (10, true), (11, true), (12, false), (13, true), (14, true), (15, true), (16, true), (17, true)] mixed (by kernel_rfl) ?_
      refine JM.py Ao0 ⟨fun _ => Py.move xe⟩ ?_
      refine JM.py Ao1 ⟨fun _ => Py.nil xe⟩ ?_
      refine JM.py Ao2 ⟨fun _ => Py.fld fld237_1 xe xoff⟩ ?_
      refine JM.ld Ao3 scal204 xe xpick xrow ?_
      refine JM.py Ao4 ⟨fun _ => Py.move xe⟩ ?_
      refine JM.py Ao5 ⟨fun _ => Py.nil xe⟩ ?_
      refine JM.py Ao6 ⟨fun _ => Py.fld fld270_6 xe xoff⟩ ?_
      refine JM.py Ao7 ⟨fun _ => Py.idxA Tryz.underlying252 siz250 xe xe (by omega) xidx xmult⟩ ?_
      refine JM.py Ao8 ⟨fun _ => Py.move xe⟩ ?_
      refine JM.py Ao9 ⟨fun _ => Py.nil xe⟩ ?_
      refine JM.py Ao10 ⟨fun _ => Py.fld fld237_2 xe xoff⟩ ?_
      refine JM.ld Ao11 scal235 xe xpick xrow ?_
      refine JM.eff Ao12 ?_
      refine JO.call (Evs.cons xe (Evs.cons xe Evs.nil)) (dbitS G g S (evM_ok hM3 _) _ c q sb p4 (ix := q.st) (by omega) (hR.no _ _ _ p4) false) xpkE ?_
      rintro _
      show JO _ _ _ _ _ _ _ ((311, _) :: _) _ (_ :: _ :: _ :: _ :: _)
      refine JO.nil ?_
      refine JX.mix (Kept.drop (Forced.step (by kernel_rfl)) (Kept.drop (Forced.trans (q := 5) (Forced.step (by kernel_rfl)) (Forced.trans (q := 6) (Forced.step (by kernel_rfl)) (Forced.trans (q := 7) (Forced.step (by kernel_rfl)) (Forced.step (by kernel_rfl))))) Kept.nil)) ?_
      refine JM.py Ao13 ⟨fun _ => Py.move xe⟩ ?_
      refine JM.py Ao14 ⟨fun _ => Py.extrI xe xix⟩ ?_
      refine JM.py Ao15 ⟨fun _ => Py.extrI xe xix⟩ ?_
      refine JM.py Ao16 ⟨fun _ => Py.assign xe⟩ ?_
      refine JM.py Ao17 ⟨fun _ => Py.assign xe⟩ ?_
      refine JM.nil (JX.code (JC.seq (JC.seq (JC.region ?_))))
      refine JO.py (Py.move xe) ?_
      first | refine JO.py (Py.neqNil Tryz.underlying70 xe rfl) ?_ | refine JO.py (Py.neqHeld Tryz.underlying70 xe rfl) ?_
      refine JO.nil (JX.code ?_)
      first | refine JC.condF xe ?_ | refine JC.condF ((xe).trans (vbool (decide_eq_false (by omega)))) ?_
      refine JC.skip (JX.code (JC.seq (JC.seq (JC.region ?_))))
      refine JO.py (Py.move xe) ?_
      first | refine JO.py (Py.dec (Py.eql xe ev_const) (by omega)) ?_ | refine JO.py (Py.undec (Py.eql xe ev_const) (by omega)) ?_ | refine JO.py (Py.eql xe ev_const) ?_
      refine JO.nil (JX.code ?_)
      first | refine JC.condT xe ?_ | refine JC.condT ((xe).trans (vbool (decide_eq_true (by omega)))) ?_
      refine JC.renD xpick xpick xpick ?_
      intro M4 hM4d
      have y0 := stC_r0 (T := T) (M := M4) (c := c) (q := q)
      have y1 := stC_r1 (T := T) (M := M4) (c := c) (q := q)
      have y2 := stC_r2 (T := T) (M := M4) (c := c) (q := q)
      have z2 := stC_lt (T := T) (M := M4) (c := c) (q := q) (i := 2) (by decide)
      have z1 := set_lt (k := 2) (w := .int .u32 (q.r1 : Nat)) (stC_lt (T := T) (M := M4) (c := c) (q := q) (i := 1) (by decide))
      have z0 := set_lt (k := 1) (w := .int .u32 (q.r0 : Nat)) (set_lt (k := 2) (w := .int .u32 (q.r1 : Nat)) (stC_lt (T := T) (M := M4) (c := c) (q := q) (i := 0) (by decide)))
      have s0 := set_ne (k := 2) (w := .int .u32 (q.r1 : Nat)) y0 (by decide)
      refine JC.region ?_
      refine JO.py (Py.move xe) ?_
      refine JO.py (Py.nil xe) ?_
      refine JO.py (Py.fld fld237_1 xe xoff) ?_
      refine JO.py (Py.load scal204 xe xpick xrow) ?_
      refine JO.py (Py.nil xe) ?_
      refine JO.py (Py.fld fld270_0 xe xoff) ?_
      refine JO.py (Py.idxA Tryz.underlying249 siz45 xe ev_const (by omega) xidx xmult) ?_
      refine JO.py (Py.load scal45 xe xpick xrow) ?_
      refine JO.py (Py.assign xe) ?_
      refine JO.nil (JX.code ?_)
      refine JC.regionM [(0, true), (1, true), (2, true), (3, true), (4, true), (5, true), (6, true), (7, true), (8, true), (9, true), (10, true), (11, true), (12, true), (13, true), (14, true), (15, false)] mixed (by kernel_rfl) ?_
      refine JM.py Ao0 ⟨fun _ => Py.move xe⟩ ?_
      refine JM.py Ao1 ⟨fun _ => Py.nil xe⟩ ?_
      refine JM.py Ao2 ⟨fun _ => Py.fld fld237_1 xe xoff⟩ ?_
      refine JM.ld Ao3 scal204 xe xpick xrow ?_
      refine JM.py Ao4 ⟨fun _ => Py.move xe⟩ ?_
      refine JM.py Ao5 ⟨fun _ => Py.nil xe⟩ ?_
      refine JM.py Ao6 ⟨fun _ => Py.fld fld237_1 xe xoff⟩ ?_
      refine JM.ld Ao7 scal204 xe xpick xrow ?_
      refine JM.py Ao8 ⟨fun _ => Py.nil xe⟩ ?_
      refine JM.py Ao9 ⟨fun _ => Py.fld fld270_0 xe xoff⟩ ?_
      refine JM.py Ao10 ⟨fun _ => Py.idxA Tryz.underlying249 siz45 xe ev_const (by omega) xidx xmult⟩ ?_
      refine JM.ld Ao11 scal45 xe xpick xrow ?_
      refine JM.py Ao12 ⟨fun _ => Py.nil xe⟩ ?_
      refine JM.py Ao13 ⟨fun _ => Py.fld fld270_0 xe xoff⟩ ?_
      refine JM.py Ao14 ⟨fun _ => Py.idxA Tryz.underlying249 siz45 xe ev_const (by omega) xidx xmult⟩ ?_
      refine JM.eff Ao15 ?_
      refine JO.store siz45 xe xe (by first | rfl | assumption) xpick xsize xnorm ?_
      refine JO.nil ?_
      refine JX.mix (Kept.drop (Forced.step (by kernel_rfl)) (Kept.drop (Forced.step (by kernel_rfl)) (Kept.drop (Forced.step (by kernel_rfl)) Kept.nil))) ?_
      refine JM.nil (JX.code (JC.seq ?_))
      refine JC.regionM [(0, true), (1, true), (2, true), (3, true), (4, true), (5, true), (6, true), (7, true), (8, true), (9, true), (10, true), (11, true), (12, true), (13, true), (14, true), (15, false)] mixed (by kernel_rfl) ?_
      refine JM.py Ao0 ⟨fun _ => Py.move xe⟩ ?_
      refine JM.py Ao1 ⟨fun _ => Py.nil xe⟩ ?_
      refine JM.py Ao2 ⟨fun _ => Py.fld fld237_1 xe xoff⟩ ?_
      refine JM.ld Ao3 scal204 xe xpick xrow ?_
      refine JM.py Ao4 ⟨fun _ => Py.move xe⟩ ?_
      refine JM.py Ao5 ⟨fun _ => Py.nil xe⟩ ?_
      refine JM.py Ao6 ⟨fun _ => Py.fld fld237_1 xe xoff⟩ ?_
      refine JM.ld Ao7 scal204 xe xpick xrow ?_
      refine JM.py Ao8 ⟨fun _ => Py.nil xe⟩ ?_
      refine JM.py Ao9 ⟨fun _ => Py.fld fld270_0 xe xoff⟩ ?_
      refine JM.py Ao10 ⟨fun _ => Py.idxA Tryz.underlying249 siz45 xe ev_const (by omega) xidx xmult⟩ ?_
      refine JM.ld Ao11 scal45 xe xpick xrow ?_
      refine JM.py Ao12 ⟨fun _ => Py.nil xe⟩ ?_
      refine JM.py Ao13 ⟨fun _ => Py.fld fld270_0 xe xoff⟩ ?_
      refine JM.py Ao14 ⟨fun _ => Py.idxA Tryz.underlying249 siz45 xe ev_const (by omega) xidx xmult⟩ ?_
      refine JM.eff Ao15 ?_
      refine JO.store siz45 xe xe (by first | rfl | assumption) xpick xsize xnorm ?_
      refine JO.nil ?_
      refine JX.mix (Kept.drop (Forced.step (by kernel_rfl)) (Kept.drop (Forced.step (by kernel_rfl)) (Kept.drop (Forced.step (by kernel_rfl)) Kept.nil))) ?_
      refine JM.nil (JX.code (JC.region ?_))
      refine JO.py (Py.move xe) ?_
      refine JO.py (Py.nil xe) ?_
      refine JO.py (Py.fld fld237_1 xe xoff) ?_
      refine JO.py (Py.load scal204 xe xpick xrow) ?_
      refine JO.py (Py.move xe) ?_
      refine JO.py (Py.nil xe) ?_
      refine JO.py (Py.fld fld270_0 xe xoff) ?_
      refine JO.py (Py.idxA Tryz.underlying249 siz45 xe ev_const (by omega) xidx xmult) ?_
      refine JO.store siz45 xe xe (by first | rfl | assumption) xpick xsize xnorm ?_
      refine JO.nil ?_
      refine JX.as (A := cel sb 270 _) (A' := cel sb 270 (stC T M4 c ⟨q.r2, q.r0, q.r1, q.r3, q.st⟩)) xpick (cel_eq (by exact stC_rot2 q)) ?_
      subst hM4d
      refine JX.cut () xag (by rw [rot2, show repT q.st pos 2 = [.bit 3 q.st true, .bit 4 q.st false] from rfl]; exact xpkE) rfl
    · skip
      have nb : (3 != 0).toNat = 1 := rfl
      refine JC.as (A := DecS g S M3 (repT q.st pos 3 ++ (lenEv repI m pos ++ l))) (A' := DecS g S M3 (.bit 3 q.st true :: .bit 4 q.st true :: (lenEv repI m pos ++ l))) xpick (rfl) ?_
      first | refine JC.condF xe ?_ | refine JC.condF ((xe).trans (vbool (decide_eq_false (by omega)))) ?_
      refine JC.seq ?_
      refine JC.regionM [(0, true), (1, true), (2, true), (3, true), (4, true), (5, true), (6, true), (7, true), (8, true), (9, true), (10, true), (11, true), (12, false), (13, true), (14, true), (15, true), (16, true), (17, true)] mixed (by kernel_rfl) ?_
      refine JM.py Ao0 ⟨fun _ => Py.move xe⟩ ?_
      refine JM.py Ao1 ⟨fun _ => Py.nil xe⟩ ?_
      refine JM.py Ao2 ⟨fun _ => Py.fld fld237_1 xe xoff⟩ ?_
      refine JM.ld Ao3 scal204 xe xpick xrow ?_
      refine JM.py Ao4 ⟨fun _ => Py.move xe⟩ ?_
      refine JM.py Ao5 ⟨fun _ => Py.nil xe⟩ ?_
      refine JM.py Ao6 ⟨fun _ => Py.fld fld270_5 xe xoff⟩ ?_
      refine JM.py Ao7 ⟨fun _ => Py.idxA Tryz.underlying252 siz250 xe xe (by omega) xidx xmult⟩ ?_
      refine JM.py Ao8 ⟨fun _ => Py.move xe⟩ ?_
      refine JM.py Ao9 ⟨fun _ => Py.nil xe⟩ ?_
      refine JM.py Ao10 ⟨fun _ => Py.fld fld237_2 xe xoff⟩ ?_
      refine JM.ld Ao11 scal235 xe xpick xrow ?_
      refine JM.eff Ao12 ?_
      refine JO.call (Evs.cons xe (Evs.cons xe Evs.nil)) (dbitS G g S hM3 _ c q sb p3 (ix := q.st) (by omega) (hR.no _ _ _ p3) true) xpkE ?_
      rintro _
      show JO _ _ _ _ _ _ _ ((282, _) :: _) _ (_ :: _ :: _ :: _ :: _)
      refine JO.nil ?_
      refine JX.mix (Kept.drop (Forced.step (by kernel_rfl)) (Kept.drop (Forced.trans (q := 5) (Forced.step (by kernel_rfl)) (Forced.trans (q := 6) (Forced.step (by kernel_rfl)) (Forced.trans (q := 7) (Forced.step (by kernel_rfl)) (Forced.step (by kernel_rfl))))) Kept.nil)) ?_
      refine JM.py Ao13 ⟨fun _ => Py.move xe⟩ ?_
      refine JM.py Ao14 ⟨fun _ => Py.extrI xe xix⟩ ?_
      refine JM.py Ao15 ⟨fun _ => Py.extrI xe xix⟩ ?_
      refine JM.py Ao16 ⟨fun _ => Py.assign xe⟩ ?_
      refine JM.py Ao17 ⟨fun _ => Py.assign xe⟩ ?_
      refine JM.nil (JX.code (JC.seq (JC.seq (JC.region ?_))))
      refine JO.py (Py.move xe) ?_
      first | refine JO.py (Py.neqNil Tryz.underlying70 xe rfl) ?_ | refine JO.py (Py.neqHeld Tryz.underlying70 xe rfl) ?_
      refine JO.nil (JX.code ?_)
      first | refine JC.condF xe ?_ | refine JC.condF ((xe).trans (vbool (decide_eq_false (by omega)))) ?_
      refine JC.skip (JX.code (JC.seq (JC.seq (JC.region ?_))))
      refine JO.py (Py.move xe) ?_
      first | refine JO.py (Py.dec (Py.eql xe ev_const) (by omega)) ?_ | refine JO.py (Py.undec (Py.eql xe ev_const) (by omega)) ?_ | refine JO.py (Py.eql xe ev_const) ?_
      refine JO.nil (JX.code ?_)
      first | refine JC.condF xe ?_ | refine JC.condF ((xe).trans (vbool (decide_eq_false (by omega)))) ?_
      refine JC.seq ?_
      refine JC.regionM [(0, true), (1, true), (2, true), (3, true), (4, true), (5, true), (6, true), (7, true), (8, true), (9, true), (10, true), (11, true), (12, false), (13, true), (14, true), (15, true), (16, true), (17, true)] mixed (by kernel_rfl) ?_
      refine JM.py Ao0 ⟨fun _ => Py.move xe⟩ ?_
      refine JM.py Ao1 ⟨fun _ => Py.nil xe⟩ ?_
      refine JM.py Ao2 ⟨fun _ => Py.fld fld237_1 xe xoff⟩ ?_
      refine JM.ld Ao3 scal204 xe xpick xrow ?_
      refine JM.py Ao4 ⟨fun _ => Py.move xe⟩ ?_
      refine JM.py Ao5 ⟨fun _ => Py.nil xe⟩ ?_
      refine JM.py Ao6 ⟨fun _ => Py.fld fld270_6 xe xoff⟩ ?_
      refine JM.py Ao7 ⟨fun _ => Py.idxA Tryz.underlying252 siz250 xe xe (by omega) xidx xmult⟩ ?_
      refine JM.py Ao8 ⟨fun _ => Py.move xe⟩ ?_
      refine JM.py Ao9 ⟨fun _ => Py.nil xe⟩ ?_
      refine JM.py Ao10 ⟨fun _ => Py.fld fld237_2 xe xoff⟩ ?_
      refine JM.ld Ao11 scal235 xe xpick xrow ?_
      refine JM.eff Ao12 ?_
      refine JO.call (Evs.cons xe (Evs.cons xe Evs.nil)) (dbitS G g S (evM_ok hM3 _) _ c q sb p4 (ix := q.st) (by omega) (hR.no _ _ _ p4) true) xpkE ?_
      rintro _
      show JO _ _ _ _ _ _ _ ((311, _) :: _) _ (_ :: _ :: _ :: _ :: _)
      refine JO.nil ?_
      refine JX.mix (Kept.drop (Forced.step (by kernel_rfl)) (Kept.drop (Forced.trans (q := 5) (Forced.step (by kernel_rfl)) (Forced.trans (q := 6) (Forced.step (by kernel_rfl)) (Forced.trans (q := 7) (Forced.step (by kernel_rfl)) (Forced.step (by kernel_rfl))))) Kept.nil)) ?_
      refine JM.py Ao13 ⟨fun _ => Py.move xe⟩ ?_
      refine JM.py Ao14 ⟨fun _ => Py.extrI xe xix⟩ ?_
      refine JM.py Ao15 ⟨fun _ => Py.extrI xe xix⟩ ?_
      refine JM.py Ao16 ⟨fun _ => Py.assign xe⟩ ?_
      refine JM.py Ao17 ⟨fun _ => Py.assign xe⟩ ?_
      refine JM.nil (JX.code (JC.seq (JC.seq (JC.region ?_))))
      refine JO.py (Py.move xe) ?_
      first | refine JO.py (Py.neqNil Tryz.underlying70 xe rfl) ?_ | refine JO.py (Py.neqHeld Tryz.underlying70 xe rfl) ?_
      refine JO.nil (JX.code ?_)
      first | refine JC.condF xe ?_ | refine JC.condF ((xe).trans (vbool (decide_eq_false (by omega)))) ?_
      refine JC.skip (JX.code (JC.seq (JC.seq (JC.region ?_))))
      refine JO.py (Py.move xe) ?_
      first | refine JO.py (Py.dec (Py.eql xe ev_const) (by omega)) ?_ | refine JO.py (Py.undec (Py.eql xe ev_const) (by omega)) ?_ | refine JO.py (Py.eql xe ev_const) ?_
      refine JO.nil (JX.code ?_)
      first | refine JC.condF xe ?_ | refine JC.condF ((xe).trans (vbool (decide_eq_false (by omega)))) ?_
      refine JC.seq ?_
      refine JC.renD xpick xpick xpick ?_
      intro M4 hM4d
      have y0 := stC_r0 (T := T) (M := M4) (c := c) (q := q)
      have y1 := stC_r1 (T := T) (M := M4) (c := c) (q := q)
      have y2 := stC_r2 (T := T) (M := M4) (c := c) (q := q)
      have y3 := stC_r3 (T := T) (M := M4) (c := c) (q := q)
      have z3 := stC_lt (T := T) (M := M4) (c := c) (q := q) (i := 3) (by decide)
      have z2 := set_lt (k := 3) (w := .int .u32 (q.r2 : Nat)) (stC_lt (T := T) (M := M4) (c := c) (q := q) (i := 2) (by decide))
      have z1 := set_lt (k := 2) (w := .int .u32 (q.r1 : Nat)) (set_lt (k := 3) (w := .int .u32 (q.r2 : Nat)) (stC_lt (T := T) (M := M4) (c := c) (q := q) (i := 1) (by decide)))
      have z0 := set_lt (k := 1) (w := .int .u32 (q.r0 : Nat)) (set_lt (k := 2) (w := .int .u32 (q.r1 : Nat)) (set_lt (k := 3) (w := .int .u32 (q.r2 : Nat)) (stC_lt (T := T) (M := M4) (c := c) (q := q) (i := 0) (by decide))))
      have s1 := set_ne (k := 3) (w := .int .u32 (q.r2 : Nat)) y1 (by decide)
      have s0 := set_ne (k := 2) (w := .int .u32 (q.r1 : Nat)) (set_ne (k := 3) (w := .int .u32 (q.r2 : Nat)) y0 (by decide)) (by decide)
      refine JC.region ?_
      refine JO.py (Py.move xe) ?_
      refine JO.py (Py.nil xe) ?_
      refine JO.py (Py.fld fld237_1 xe xoff) ?_
      refine JO.py (Py.load scal204 xe xpick xrow) ?_
      refine JO.py (Py.nil xe) ?_
      refine JO.py (Py.fld fld270_0 xe xoff) ?_
      refine JO.py (Py.idxA Tryz.underlying249 siz45 xe ev_const (by omega) xidx xmult) ?_
      refine JO.py (Py.load scal45 xe xpick xrow) ?_
      refine JO.py (Py.assign xe) ?_
      refine JO.nil (JX.code ?_)
      refine JC.regionM [(0, true), (1, true), (2, true), (3, true), (4, true), (5, true), (6, true), (7, true), (8, true), (9, true), (10, true), (11, true), (12, true), (13, true), (14, true), (15, false)] mixed (by kernel_rfl) ?_
      refine JM.py Ao0 ⟨fun _ => Py.move xe⟩ ?_
      refine JM.py Ao1 ⟨fun _ => Py.nil xe⟩ ?_
      refine JM.py Ao2 ⟨fun _ => Py.fld fld237_1 xe xoff⟩ ?_
      refine JM.ld Ao3 scal204 xe xpick xrow ?_
      refine JM.py Ao4 ⟨fun _ => Py.move xe⟩ ?_
      refine JM.py Ao5 ⟨fun _ => Py.nil xe⟩ ?_
      refine JM.py Ao6 ⟨fun _ => Py.fld fld237_1 xe xoff⟩ ?_
      refine JM.ld Ao7 scal204 xe xpick xrow ?_
      refine JM.py Ao8 ⟨fun _ => Py.nil xe⟩ ?_
      refine JM.py Ao9 ⟨fun _ => Py.fld fld270_0 xe xoff⟩ ?_
      refine JM.py Ao10 ⟨fun _ => Py.idxA Tryz.underlying249 siz45 xe ev_const (by omega) xidx xmult⟩ ?_
      refine JM.ld Ao11 scal45 xe xpick xrow ?_
      refine JM.py Ao12 ⟨fun _ => Py.nil xe⟩ ?_
      refine JM.py Ao13 ⟨fun _ => Py.fld fld270_0 xe xoff⟩ ?_
      refine JM.py Ao14 ⟨fun _ => Py.idxA Tryz.underlying249 siz45 xe ev_const (by omega) xidx xmult⟩ ?_
      refine JM.eff Ao15 ?_
      refine JO.store siz45 xe xe (by first | rfl | assumption) xpick xsize xnorm ?_
      refine JO.nil ?_
      refine JX.mix (Kept.drop (Forced.step (by kernel_rfl)) (Kept.drop (Forced.step (by kernel_rfl)) (Kept.drop (Forced.step (by kernel_rfl)) Kept.nil))) ?_
      refine JM.nil (JX.code ?_)
      refine JC.regionM [(0, true), (1, true), (2, true), (3, true), (4, true), (5, true), (6, true), (7, true), (8, true), (9, true), (10, true), (11, true), (12, true), (13, true), (14, true), (15, false)] mixed (by kernel_rfl) ?_
      refine JM.py Ao0 ⟨fun _ => Py.move xe⟩ ?_
      refine JM.py Ao1 ⟨fun _ => Py.nil xe⟩ ?_
      refine JM.py Ao2 ⟨fun _ => Py.fld fld237_1 xe xoff⟩ ?_
      refine JM.ld Ao3 scal204 xe xpick xrow ?_
      refine JM.py Ao4 ⟨fun _ => Py.move xe⟩ ?_
      refine JM.py Ao5 ⟨fun _ => Py.nil xe⟩ ?_
      refine JM.py Ao6 ⟨fun _ => Py.fld fld237_1 xe xoff⟩ ?_
      refine JM.ld Ao7 scal204 xe xpick xrow ?_
      refine JM.py Ao8 ⟨fun _ => Py.nil xe⟩ ?_
      refine JM.py Ao9 ⟨fun _ => Py.fld fld270_0 xe xoff⟩ ?_
      refine JM.py Ao10 ⟨fun _ => Py.idxA Tryz.underlying249 siz45 xe ev_const (by omega) xidx xmult⟩ ?_
      refine JM.ld Ao11 scal45 xe xpick xrow ?_
      refine JM.py Ao12 ⟨fun _ => Py.nil xe⟩ ?_
      refine JM.py Ao13 ⟨fun _ => Py.fld fld270_0 xe xoff⟩ ?_
      refine JM.py Ao14 ⟨fun _ => Py.idxA Tryz.underlying249 siz45 xe ev_const (by omega) xidx xmult⟩ ?_
      refine JM.eff Ao15 ?_
      refine JO.store siz45 xe xe (by first | rfl | assumption) xpick xsize xnorm ?_
      refine JO.nil ?_
      refine JX.mix (Kept.drop (Forced.step (by kernel_rfl)) (Kept.drop (Forced.step (by kernel_rfl)) (Kept.drop (Forced.step (by kernel_rfl)) Kept.nil))) ?_
      refine JM.nil (JX.code (JC.seq ?_))
      refine JC.regionM [(0, true), (1, true), (2, true), (3, true), (4, true), (5, true), (6, true), (7, true), (8, true), (9, true), (10, true), (11, true), (12, true), (13, true), (14, true), (15, false)] mixed (by kernel_rfl) ?_
      refine JM.py Ao0 ⟨fun _ => Py.move xe⟩ ?_
      refine JM.py Ao1 ⟨fun _ => Py.nil xe⟩ ?_
      refine JM.py Ao2 ⟨fun _ => Py.fld fld237_1 xe xoff⟩ ?_
      refine JM.ld Ao3 scal204 xe xpick xrow ?_
      refine JM.py Ao4 ⟨fun _ => Py.move xe⟩ ?_
      refine JM.py Ao5 ⟨fun _ => Py.nil xe⟩ ?_
      refine JM.py Ao6 ⟨fun _ => Py.fld fld237_1 xe xoff⟩ ?_
      refine JM.ld Ao7 scal204 xe xpick xrow ?_
      refine JM.py Ao8 ⟨fun _ => Py.nil xe⟩ ?_
      refine JM.py Ao9 ⟨fun _ => Py.fld fld270_0 xe xoff⟩ ?_
      refine JM.py Ao10 ⟨fun _ => Py.idxA Tryz.underlying249 siz45 xe ev_const (by omega) xidx xmult⟩ ?_
      refine JM.ld Ao11 scal45 xe xpick xrow ?_
      refine JM.py Ao12 ⟨fun _ => Py.nil xe⟩ ?_
      refine JM.py Ao13 ⟨fun _ => Py.fld fld270_0 xe xoff⟩ ?_
      refine JM.py Ao14 ⟨fun _ => Py.idxA Tryz.underlying249 siz45 xe ev_const (by omega) xidx xmult⟩ ?_
      refine JM.eff Ao15 ?_
      refine JO.store siz45 xe xe (by first | rfl | assumption) xpick xsize xnorm ?_
      refine JO.nil ?_
      refine JX.mix (Kept.drop (Forced.step (by kernel_rfl)) (Kept.drop (Forced.step (by kernel_rfl)) (Kept.drop (Forced.step (by kernel_rfl)) Kept.nil))) ?_
      refine JM.nil (JX.code (JC.region ?_))
      refine JO.py (Py.move xe) ?_
      refine JO.py (Py.nil xe) ?_
      refine JO.py (Py.fld fld237_1 xe xoff) ?_
      refine JO.py (Py.load scal204 xe xpick xrow) ?_
      refine JO.py (Py.move xe) ?_
      refine JO.py (Py.nil xe) ?_
      refine JO.py (Py.fld fld270_0 xe xoff) ?_
      refine JO.py (Py.idxA Tryz.underlying249 siz45 xe ev_const (by omega) xidx xmult) ?_
      refine JO.store siz45 xe xe (by first | rfl | assumption) xpick xsize xnorm ?_
      refine JO.nil ?_
      refine JX.as (A := cel sb 270 _) (A' := cel sb 270 (stC T M4 c ⟨q.r3, q.r0, q.r1, q.r2, q.st⟩)) xpick (cel_eq (by exact stC_rot3 q)) ?_
      subst hM4d
      refine JX.cut () xag (by rw [rot3, show repT q.st pos 3 = [.bit 3 q.st true, .bit 4 q.st true] from rfl]; exact xpkE) rfl
  · skip
    rintro _ base2
    obtain ⟨q2, hq2⟩ : ∃ x, q.rot k = x := ⟨_, rfl⟩
    have hst2 : q2.st < 12 := by rw [← hq2]; exact hst
    have hst3 : q2.st = q.st := by rw [← hq2]; rfl
    have hM4 : PMok (evsM M3 (repT q.st pos k)) := evsM_ok hM3 _
    rw [hq2]
    refine JX.code (JC.seq ?_)
    refine JC.regionM [(0, true), (1, true), (2, true), (3, true), (4, true), (5, true), (6, true), (7, true), (8, true), (9, true), (10, true), (11, false), (12, true), (13, true), (14, true), (15, true), (16, true)] mixed (by kernel_rfl) ?_
    refine JM.py Ao0 ⟨fun _ => Py.move xe⟩ ?_
    refine JM.py Ao1 ⟨fun _ => Py.nil xe⟩ ?_
    refine JM.py Ao2 ⟨fun _ => Py.fld fld237_1 xe xoff⟩ ?_
    refine JM.ld Ao3 scal204 xe xpick xrow ?_
    refine JM.py Ao4 ⟨fun _ => Py.nil xe⟩ ?_
    refine JM.py Ao5 ⟨fun _ => Py.fld fld270_9 xe xoff⟩ ?_
    refine JM.py Ao6 ⟨fun _ => Py.move xe⟩ ?_
    refine JM.py Ao7 ⟨fun _ => Py.nil xe⟩ ?_
    refine JM.py Ao8 ⟨fun _ => Py.fld fld237_2 xe xoff⟩ ?_
    refine JM.ld Ao9 scal235 xe xpick xrow ?_
    refine JM.py Ao10 ⟨fun _ => Py.move xe⟩ ?_
    refine JM.eff Ao11 ?_
    refine JO.call (Evs.cons xe (Evs.cons xe (Evs.cons xe Evs.nil))) (lengthD_con G g S T c hR _ hM4 repI hR.rep 505 m pos l q2 sb pr (fun M j hj => stC_repl hj) hm hpos) xpkE ?_
    rintro _
    show JO _ _ _ _ _ _ _ ((400, _) :: _) _ (_ :: _ :: _ :: _ :: _)
    refine JO.nil ?_
    refine JX.mix (Kept.drop (Forced.step (by kernel_rfl)) (Kept.drop (Forced.trans (q := 4) (Forced.step (by kernel_rfl)) (Forced.trans (q := 5) (Forced.step (by kernel_rfl)) (Forced.step (by kernel_rfl)))) Kept.nil)) ?_
    refine JM.py Ao12 ⟨fun _ => Py.move xe⟩ ?_
    refine JM.py Ao13 ⟨fun _ => Py.extrI xe xix⟩ ?_
    refine JM.py Ao14 ⟨fun _ => Py.extrI xe xix⟩ ?_
    refine JM.py Ao15 ⟨fun _ => Py.assign xe⟩ ?_
    refine JM.py Ao16 ⟨fun _ => Py.assign xe⟩ ?_
    refine JM.nil (JX.code (JC.seq (JC.seq (JC.region ?_))))
    refine JO.py (Py.move xe) ?_
    first | refine JO.py (Py.neqNil Tryz.underlying70 xe rfl) ?_ | refine JO.py (Py.neqHeld Tryz.underlying70 xe rfl) ?_
    refine JO.nil (JX.code ?_)
    first | refine JC.condF xe ?_ | refine JC.condF ((xe).trans (vbool (decide_eq_false (by omega)))) ?_
    refine JC.skip (JX.code (JC.seq (JC.region ?_)))
    refine JO.py (Py.move xe) ?_
    refine JO.py (Py.nil xe) ?_
    refine JO.py (Py.fld fld237_1 xe xoff) ?_
    refine JO.py (Py.load scal204 xe xpick xrow) ?_
    refine JO.call (Evs.cons xe Evs.nil) (updRep_con G T _ c q2 sb hst2) xpkE ?_
    rintro _
    show JO _ _ _ _ _ _ _ ((410, _) :: _) _ (_ :: _ :: _)
    refine JO.nil (JX.code (JC.seq (JC.region ?_)))
    refine JO.py (Py.move xe) ?_
    first | refine JO.py (Py.conv cnv45_3 xe (w_i64 (by omega))) ?_ | refine JO.py (Py.conv cnv45_3 xe rfl) ?_
    refine JO.py (Py.add xe ev_const (w_i64 (by omega))) ?_
    refine JO.py (Py.move xe) ?_
    first | refine JO.py (Py.conv cnv45_2 xe (w_i64 (by omega))) ?_ | refine JO.py (Py.conv cnv45_2 xe rfl) ?_
    refine JO.py (Py.add xe ev_const (w_i64 (by omega))) ?_
    refine JO.py (Py.build bld344 (Pts.cons xe (Pts.cons xe Pts.nil)) xfl) ?_
    refine JO.py (Py.mki mki344 xe) ?_
    refine JO.py (Py.assign xe) ?_
    refine JO.nil (JX.code (JC.seq (JC.region ?_)))
    refine JO.py (Py.move xe) ?_
    refine JO.py (Py.assign xe) ?_
    refine JO.py (Py.assign ev_const) ?_
    refine JO.nil (JX.code (JC.ret ?_))
    subst hM3d
    rw [hst3]
    refine JX.end2 (Or.inl rfl) (()) Tryz.results154 (tup2 ((xe).trans (by exact viface (vagg (varr (vcons (vint (by omega)) (vcons (vint (by omega)) rfl)))))) ((xe).trans (xval))) xpkE
end Go.Proofs.YtfpepghmbeoanaaGreatDoor
end

section
open Go Go.RowKit
namespace Go.Proofs.YtfpepghmbeoanaaGreatDoor
open Lz
set_option linter.unusedSimpArgs false
set_option linter.unusedVariables false
def opV (bs : List Nat) (S : LzS) : Sym → Value
  | .lit => .iface 347 (.agg #[.int .u8 (bs.getD S.i 0 : Nat)])
  | .rep k n => .iface 344 (.agg #[.int .i64 (S.rk k + 1 : Nat), .int .i64 (n : Nat)])
  | .mat d n => .iface 344 (.agg #[.int .i64 (d + 1 : Nat), .int .i64 (n : Nat)])
/-- The bytes of a piece are those of the whole from there on. -/
structure At2 (all bs : List Nat) (pre : Nat) : Prop where
  eq : ∀ j, j < bs.length → all.getD (pre + j) 0 = bs.getD j 0
  all : ∀ x ∈ all, x < 256
theorem At2.byte {all bs : List Nat} {pre : Nat} (h : At2 all bs pre) {i dist : Nat} (hi : i ≤ bs.length) (hd : 0 < dist ∧ dist ≤ i) : byteAt all (pre + i) i dist = bs.getD (i - dist) 0 := by
  unfold byteAt
  rw [if_pos hd, show pre + i - dist = pre + (i - dist) by omega, h.eq _ (by omega)]
theorem At2.lt {all bs : List Nat} {pre : Nat} (h : At2 all bs pre) {j : Nat} (hj : j < bs.length) : bs.getD j 0 < 256 := by
  rw [← h.eq j hj, List.getD_eq_getElem?_getD]
  cases hx : all[pre + j]? with
  | none => simp
  | some v => exact h.all v (List.mem_of_getElem? hx)
theorem ls_litO {all bs : List Nat} {pre : Nat} (h : At2 all bs pre) (c : Cfg) {i : Nat} (hi : i ≤ bs.length) : 768 * c.ls (byteAt all (pre + i) i 1) i = c.litO bs i := by
  unfold Cfg.ls Cfg.litO
  by_cases h0 : i = 0
  · subst h0; simp [byteAt]
  · rw [h.byte hi (by omega), if_neg h0]
theorem regs_r (S : LzS) {k : Nat} (hk : k < 4) : S.regs.r k = S.rk k := by
  have : k = 0 ∨ k = 1 ∨ k = 2 ∨ k = 3 := by omega
  rcases this with rfl | rfl | rfl | rfl <;> rfl
theorem regs_rot (S : LzS) (k n : Nat) (hk : k < 4) : ({ S.regs.rot k with st := matSt S.regs.st 8 11 } : Regs) = (S.next (.rep k n)).regs := by
  have : k = 0 ∨ k = 1 ∨ k = 2 ∨ k = 3 := by omega
  rcases this with rfl | rfl | rfl | rfl <;> rfl
theorem readOp_con (G : Gst) (R : ByteSrc G) (T : Tab) (c : Cfg) (hc : c.Ok) (hR : RowsD T c) (M : PM) (hM : PMok M) (d dd db sb g start size n re pre : Nat) (all bs : List Nat) (hA : At2 all bs pre) (l : List Ev) (S : LzS) (hS : S.Ok bs.length) (y : Sym) (hv : Valid bs S y) (hdy : ∀ d n, y = .mat d n → d < 1048576)
    (hn : pre + bs.length + 300 ≤ n ∧ n ≤ 100000) :
    Con Tryz.prog G 154 #[.pointer (some ⟨d, 0, none⟩)] [DecC d dd sb g start size false, DictC dd db n (pre + S.i) re S.i, DictD db all (pre + S.i) n, cel sb 270 (stC T M c S.regs), ChD T M, DecS g R M (symEv c bs S y ++ l)] (fun _ : Unit => .tuple #[opV bs S y, .nilIface])
      (fun _ => [DecC d dd sb g start size false, DictC dd db n (pre + S.i) re S.i, DictD db all (pre + S.i) n, cel sb 270 (stC T (evsM M (symEv c bs S y)) c (S.next y).regs), ChD T (evsM M (symEv c bs S y)), DecS g R (evsM M (symEv c bs S y)) l]) := by
  have hst := hS.st
  have hi := hS.i
  have hr := hS.r
  cases y with
  | lit =>
    have h := readLit_con G R T c hc hR M hM S.regs d dd db sb g start size n (pre + S.i) re S.i (bs.getD S.i 0) (bs.getD (S.i - S.r0 - 1) 0) all l hA.all (by omega) (by omega) (by omega) (hA.lt hv.1) hst (by show S.r0 < _; omega) (fun h7 => by
      have := hS.old h7
      show byteAt all (pre + S.i) S.i (S.r0 + 1) = _
      rw [hA.byte hi (by omega), Nat.sub_sub])
    rw [ls_litO hA c hi] at h
    exact h
  | rep k m =>
    obtain ⟨hk, hm, he⟩ := hv
    have h := readRep_con G R T c hc hR M hM S.regs d dd db sb g start size n (pre + S.i) re S.i m k all l (by omega) hst ⟨hm, he.le⟩ hk (by rw [regs_r S hk]; have := hS.rk_le k; omega)
    rw [regs_r S hk, regs_rot S k m hk] at h
    simp only [symEv, List.cons_append, List.append_assoc, evsM_cons, evsM_append]
    exact h
  | mat dist m =>
    obtain ⟨hm, he⟩ := hv
    have h := readMat_con G R T c hc hR M hM S.regs d dd db sb g start size n (pre + S.i) re S.i m dist all l (by omega) hst ⟨hm, he.le⟩ (hdy _ _ rfl)
    exact h
set_option maxRecDepth 100000 in
theorem applyM_con (G : Gst) (d dd db sb g start size n fr re hd dist len : Nat) (all : List Nat) (hn : 1 ≤ n ∧ n ≤ 100000) (h : re ≤ fr ∧ fr + len < n) (hh : hd ≤ fr ∧ hd + 1 < n) (hd1 : 1 ≤ dist ∧ dist ≤ hd) (hl : 1 ≤ len ∧ len ≤ 273) (heq : ∀ j, j < len → all.getD (fr + j) 0 = all.getD (fr + j - dist) 0) :
    Con Tryz.prog G 157 #[.pointer (some ⟨d, 0, none⟩), .iface 344 (.agg #[.int .i64 (dist : Nat), .int .i64 (len : Nat)])] [DecC d dd sb g start size false, DictC dd db n fr re hd, DictD db all fr n] (fun _ : Unit => .nilIface) (fun _ => [DecC d dd sb g start size false, DictC dd db n (fr + len) re (hd + len), DictD db all (fr + len) n]) := by
  refine Con.intro Tryz.func157 rfl (by kernel_rfl) Tryz.ntmps157 (Nat.le_of_ble_eq_true rfl) ?_
  intro F
  show JC _ _ _ _ _ _ [(0, _), (1, _)] _ [_, _, _, _]
  refine JC.seq (JC.region ?_)
  refine JO.py (Py.assign ev_const) ?_
  refine JO.nil (JX.code (JC.seq (JC.region ?_)))
  refine JO.py (Py.assign ev_const) ?_
  refine JO.nil (JX.code (JC.seq (JC.seq (JC.region ?_))))
  refine JO.py (Py.move xe) ?_
  refine JO.nil (JX.code (JC.block (JC.seq (JC.region ?_))))
  refine JO.py (Py.asT Tryz.underlying344 xe) ?_
  refine JO.py (Py.extrI xe xix) ?_
  refine JO.py (Py.extrI xe xix) ?_
  refine JO.nil (JX.code ?_)
  first | refine JC.condT xe ?_ | refine JC.condT ((xe).trans (vbool (decide_eq_true (by omega)))) ?_
  refine JC.seq (JC.region ?_)
  refine JO.allocA zer344 ?_; intro b6
  refine JO.storeW siz344 xe xe (by first | rfl | (simp; done) | assumption | fail) (by first | (simp [Value.oneCell']; done) | assumption | fail) xpick (by first | rfl | (simp; done) | assumption | fail) ?_
  refine JO.nil (JX.code ?_)
  refine JC.regionM [(0, true), (1, true), (2, true), (3, true), (4, true), (5, true), (6, true), (7, true), (8, false), (9, true)] mixed (by kernel_rfl) ?_
  refine JM.py Ao0 ⟨fun _ => Py.move xe⟩ ?_
  refine JM.py Ao1 ⟨fun _ => Py.nil xe⟩ ?_
  refine JM.py Ao2 ⟨fun _ => Py.fld fld237_0 xe xoff⟩ ?_
  refine JM.ld Ao3 scal187 xe xpick xrow ?_
  refine JM.py Ao4 ⟨fun _ => Py.fld fld344_0 xe xoff⟩ ?_
  refine JM.ld Ao5 scal2 xe xpick xrow ?_
  refine JM.py Ao6 ⟨fun _ => Py.fld fld344_1 xe xoff⟩ ?_
  refine JM.ld Ao7 scal3 xe xpick xrow ?_
  refine JM.eff Ao8 ?_
  refine JO.call (Evs.cons xe (Evs.cons xe (Evs.cons xe Evs.nil))) (writeMatch_con G dd db n fr re hd dist len all hn h hh hd1 hl heq) xpkE ?_
  rintro _
  show JO _ _ _ _ _ _ _ ((22, _) :: _) _ (_ :: _ :: _ :: _)
  refine JO.nil ?_
  refine JX.mix (Kept.drop (Forced.step (by kernel_rfl)) (Kept.drop (Forced.step (by kernel_rfl)) (Kept.drop (Forced.step (by kernel_rfl)) Kept.nil))) ?_
  refine JM.py Ao9 ⟨fun _ => Py.assign xe⟩ ?_
  refine JM.nil (JX.blockN (JX.code (JC.seq (JC.region ?_))))
  refine JO.py (Py.move xe) ?_
  refine JO.py (Py.assign xe) ?_
  refine JO.nil (JX.code (JC.ret ?_))
  refine JX.end1 (Or.inl rfl) (()) Tryz.results157 ((xe).trans (by first | exact xval | (dsimp only; exact xval))) xpkE
set_option maxRecDepth 100000 in
theorem applyL_con (G : Gst) (d dd db sb g start size n fr re hd x : Nat) (all : List Nat) (hn : n ≤ 100000) (h : re ≤ fr ∧ fr + 1 < n) (hh : hd ≤ fr) (hx : x = all.getD fr 0) (hx2 : x < 256) :
    Con Tryz.prog G 157 #[.pointer (some ⟨d, 0, none⟩), .iface 347 (.agg #[.int .u8 (x : Nat)])] [DecC d dd sb g start size false, DictC dd db n fr re hd, DictD db all fr n] (fun _ : Unit => .nilIface) (fun _ => [DecC d dd sb g start size false, DictC dd db n (fr + 1) re (hd + 1), DictD db all (fr + 1) n]) := by
  refine Con.intro Tryz.func157 rfl (by kernel_rfl) Tryz.ntmps157 (Nat.le_of_ble_eq_true rfl) ?_
  intro F
  show JC _ _ _ _ _ _ [(0, _), (1, _)] _ [_, _, _, _]
  refine JC.seq (JC.region ?_)
  refine JO.py (Py.assign ev_const) ?_
  refine JO.nil (JX.code (JC.seq (JC.region ?_)))
  refine JO.py (Py.assign ev_const) ?_
  refine JO.nil (JX.code (JC.seq (JC.seq (JC.region ?_))))
  refine JO.py (Py.move xe) ?_
  refine JO.nil (JX.code (JC.block (JC.seq (JC.region ?_))))
  refine JO.py (Py.asF Tryz.underlying344 zer344 xe rfl) ?_
  refine JO.py (Py.extrI xe xix) ?_
  refine JO.py (Py.extrI xe xix) ?_
  refine JO.nil (JX.code ?_)
  first | refine JC.condF xe ?_ | refine JC.condF ((xe).trans (vbool (decide_eq_false (by omega)))) ?_
  refine JC.seq (JC.region ?_)
  refine JO.py (Py.asT Tryz.underlying347 xe) ?_
  refine JO.py (Py.extrI xe xix) ?_
  refine JO.py (Py.extrI xe xix) ?_
  refine JO.nil (JX.code ?_)
  first | refine JC.condT xe ?_ | refine JC.condT ((xe).trans (vbool (decide_eq_true (by omega)))) ?_
  refine JC.seq (JC.region ?_)
  refine JO.allocA zer347 ?_; intro b7
  refine JO.storeW siz347 xe xe (by first | rfl | (simp; done) | assumption | fail) (by first | (simp [Value.oneCell']; done) | assumption | fail) xpick (by first | rfl | (simp; done) | assumption | fail) ?_
  refine JO.nil (JX.code ?_)
  refine JC.regionM [(0, true), (1, true), (2, true), (3, true), (4, true), (5, true), (6, false), (7, true)] mixed (by kernel_rfl) ?_
  refine JM.py Ao0 ⟨fun _ => Py.move xe⟩ ?_
  refine JM.py Ao1 ⟨fun _ => Py.nil xe⟩ ?_
  refine JM.py Ao2 ⟨fun _ => Py.fld fld237_0 xe xoff⟩ ?_
  refine JM.ld Ao3 scal187 xe xpick xrow ?_
  refine JM.py Ao4 ⟨fun _ => Py.fld fld347_0 xe xoff⟩ ?_
  refine JM.ld Ao5 scal5 xe xpick xrow ?_
  refine JM.eff Ao6 ?_
  refine JO.call (Evs.cons xe (Evs.cons xe Evs.nil)) (dictByte_con G dd db n fr re hd x all hn h hh hx hx2) xpkE ?_
  rintro _
  show JO _ _ _ _ _ _ _ ((32, _) :: _) _ (_ :: _ :: _ :: _)
  refine JO.nil ?_
  refine JX.mix (Kept.drop (Forced.step (by kernel_rfl)) (Kept.drop (Forced.step (by kernel_rfl)) Kept.nil)) ?_
  refine JM.py Ao7 ⟨fun _ => Py.assign xe⟩ ?_
  refine JM.nil (JX.blockN (JX.code (JC.seq (JC.region ?_))))
  refine JO.py (Py.move xe) ?_
  refine JO.py (Py.assign xe) ?_
  refine JO.nil (JX.code (JC.ret ?_))
  refine JX.end1 (Or.inl rfl) (()) Tryz.results157 ((xe).trans (by first | exact xval | (dsimp only; exact xval))) xpkE
theorem apply_con (G : Gst) (d dd db sb g start size n re pre : Nat) (all bs : List Nat) (hA : At2 all bs pre) (S : LzS) (hS : S.Ok bs.length) (y : Sym) (hv : Valid bs S y) (hn : pre + bs.length + 300 ≤ n ∧ n ≤ 100000) (hre : re ≤ pre + S.i) :
    Con Tryz.prog G 157 #[.pointer (some ⟨d, 0, none⟩), opV bs S y] [DecC d dd sb g start size false, DictC dd db n (pre + S.i) re S.i, DictD db all (pre + S.i) n] (fun _ : Unit => .nilIface)
      (fun _ => [DecC d dd sb g start size false, DictC dd db n (pre + (S.next y).i) re (S.next y).i, DictD db all (pre + (S.next y).i) n]) := by
  have hi := hS.i
  have hnx := (LzS.next_ok hS y hv).i
  cases y with
  | lit =>
    exact applyL_con G d dd db sb g start size n (pre + S.i) re S.i (bs.getD S.i 0) all hn.2 (by omega) (by omega) (hA.eq _ hv.1).symm (hA.lt hv.1)
  | rep k m =>
    obtain ⟨hk, hm, he⟩ := hv
    have hdd := he.dist.resolve_left (by omega)
    have hf := he.fit
    have hle := he.le
    have h := applyM_con G d dd db sb g start size n (pre + S.i) re S.i (S.rk k + 1) m all (by omega) (by omega) (by omega) (by omega) (by omega) (fun j hj => by
      rw [Nat.add_assoc, hA.eq _ (by omega), show pre + (S.i + j) - (S.rk k + 1) = pre + (S.i + j - (S.rk k + 1)) by omega, hA.eq _ (by omega)]
      exact he.same j hj)
    rw [Nat.add_assoc pre S.i m] at h
    exact h
  | mat dist m =>
    obtain ⟨hm, he⟩ := hv
    have hdd := he.dist.resolve_left (by omega)
    have hf := he.fit
    have hle := he.le
    have h := applyM_con G d dd db sb g start size n (pre + S.i) re S.i (dist + 1) m all (by omega) (by omega) (by omega) (by omega) (by omega) (fun j hj => by
      rw [Nat.add_assoc, hA.eq _ (by omega), show pre + (S.i + j) - (dist + 1) = pre + (S.i + j - (dist + 1)) by omega, hA.eq _ (by omega)]
      exact he.same j hj)
    rw [Nat.add_assoc pre S.i m] at h
    exact h
theorem decompressed_con (G : Gst) (d dd db sb g start size n fr re hd : Nat) (eos : Bool) (hs : start ≤ hd ∧ hd ≤ 1000000) : Con Tryz.prog G 156 #[.pointer (some ⟨d, 0, none⟩)] [DecC d dd sb g start size eos, DictC dd db n fr re hd] (fun _ : Unit => .int .i64 (hd - start : Nat)) (fun _ => [DecC d dd sb g start size eos, DictC dd db n fr re hd]) := by
  refine Con.intro Tryz.func156 rfl (by kernel_rfl) Tryz.ntmps156 (Nat.le_of_ble_eq_true rfl) ?_
  intro F
  show JC _ _ _ _ _ _ [(0, _)] _ [_, _, _]
  refine JC.seq (JC.region ?_)
  refine JO.py (Py.assign ev_const) ?_
  refine JO.nil (JX.code (JC.seq ?_))
  refine JC.regionM [(0, true), (1, true), (2, true), (3, true), (5, true), (6, true), (7, true), (8, true), (4, false), (9, true), (10, true)] mixed (by kernel_rfl) ?_
  refine JM.py Ao0 ⟨fun _ => Py.move xe⟩ ?_
  refine JM.py Ao1 ⟨fun _ => Py.nil xe⟩ ?_
  refine JM.py Ao2 ⟨fun _ => Py.fld fld237_0 xe xoff⟩ ?_
  refine JM.ld Ao3 scal187 xe xpick xrow ?_
  refine JM.py Ao5 ⟨fun _ => Py.move xe⟩ ?_
  refine JM.py Ao6 ⟨fun _ => Py.nil xe⟩ ?_
  refine JM.py Ao7 ⟨fun _ => Py.fld fld237_3 xe xoff⟩ ?_
  refine JM.ld Ao8 scal2 xe xpick xrow ?_
  refine JM.eff Ao4 ?_
  refine JO.call (Evs.cons xe Evs.nil) (pos_con G dd db n fr re hd) xpkE ?_
  rintro _
  show JO _ _ _ _ _ _ _ ((7, _) :: _) _ (_ :: _ :: _)
  refine JO.nil ?_
  refine JX.mix (Kept.keep (fun _ hw => hw.cell xpick xrow) (Kept.drop (Forced.step (by kernel_rfl)) Kept.nil)) ?_
  refine JM.py Ao9 ⟨fun _ => Py.sub xe xe (w_i64 (by omega))⟩ ?_
  refine JM.py Ao10 ⟨fun _ => Py.assign xe⟩ ?_
  refine JM.nil (JX.code (JC.ret ?_))
  refine JX.end1 (Or.inl rfl) (()) Tryz.results156 ((xe).trans (by first | exact xval | (dsimp only; exact xval))) xpkE
theorem atEnd_con (G : Gst) (g : Nat) (S : ByteSrc G) (M : PM) : Con Tryz.prog G 155 #[.pointer (some ⟨g, 0, none⟩)] [DecS g S M []] (fun _ : Unit => .bool true) (fun _ => [DecS g S M []]) := by
  unfold DecS
  refine Con.intro Tryz.func155 rfl (by kernel_rfl) Tryz.ntmps155 (Nat.le_of_ble_eq_true rfl) ?_
  intro F
  show JC _ _ _ _ _ _ [(0, _)] _ [_, _]
  refine JC.open xpick ?_
  rintro ⟨⟨r, c, rb⟩, hd⟩
  show JC _ _ _ _ _ _ _ _ (_ :: _ :: _ :: _)
  dsimp only at hd ⊢
  obtain ⟨rfl, rfl⟩ := hd
  refine JC.seq (JC.region ?_)
  refine JO.py (Py.assign ev_const) ?_
  refine JO.nil (JX.code (JC.seq (JC.region ?_)))
  refine JO.py (Py.move xe) ?_
  refine JO.py (Py.nil xe) ?_
  refine JO.py (Py.fld fld288_2 xe xoff) ?_
  refine JO.py (Py.load scal45 xe xpick xrow) ?_
  first | refine JO.py (Py.dec (Py.eql xe ev_const) (by omega)) ?_ | refine JO.py (Py.undec (Py.eql xe ev_const) (by omega)) ?_ | refine JO.py (Py.eql xe ev_const) ?_
  refine JO.py (Py.assign xe) ?_
  refine JO.nil (JX.code (JC.ret ?_))
  refine JX.shut (f := (fun y : {y : Nat × Nat × List Nat // DecOK M y.1 y.2.1 y.2.2 []} => [RdA g S y.1.1 y.1.2.1, S.A y.1.2.2])) (⟨(r, 0, []), rfl, rfl⟩) xpicks ?_
  refine JX.end1 (Or.inl rfl) (()) Tryz.results155 ((xe).trans (by first | exact xval | (dsimp only; exact xval))) xpkE
end Go.Proofs.YtfpepghmbeoanaaGreatDoor
end

section
open Go Go.RowKit
namespace Go.Proofs.YtfpepghmbeoanaaGreatDoor
open Lz
set_option linter.unusedSimpArgs false
set_option linter.unusedVariables false
/-- io.EOF. -/
abbrev eofV (ea : Addr) : Value := .iface 215 (.pointer (some ea))
abbrev EofA (ea : Addr) (eT : TypeId) (ef : Nat × Nat) : Asn := blk 1 (.cells #[eofV ea] eT ef)
/-- How many bytes a symbol tells. -/
def Sym.w : Sym → Nat
  | .lit => 1
  | .rep _ n => n
  | .mat _ n => n
theorem next_i (S : LzS) (y : Sym) : (S.next y).i = S.i + y.w := by cases y <;> rfl
theorem valid_w {b : List Nat} {S : LzS} {y : Sym} (h : Valid b S y) : 1 ≤ y.w ∧ y.w ≤ 273 := by
  cases y with
  | lit => exact ⟨Nat.le_refl _, by decide⟩
  | rep k n => exact ⟨by have := h.2.1; show 1 ≤ n; omega, h.2.2.le⟩
  | mat d n => exact ⟨by have := h.1; show 1 ≤ n; omega, h.2.le⟩
def MatOk (y : Sym) : Prop := ∀ d n, y = .mat d n → d < 1048576
theorem mat_ok {bs : List Nat} {S : LzS} {y : Sym} (hv : Valid bs S y) (hb : bs.length ≤ 100000) : MatOk y := by
  intro d n e
  subst e
  have h1 := hv.2.dist.resolve_left (by have := hv.1; omega)
  have h2 := hv.2.fit
  omega
theorem run_len {bs : List Nat} : ∀ (l : List Sym) (S : LzS), ValidAll bs S l → S.i + l.length ≤ (S.run l).i
  | [], S, _ => Nat.le_refl _
  | y :: l, S, h => by
    have h1 := run_len l (S.next y) h.2
    have h2 := valid_w h.1
    have h3 := next_i S y
    simp only [LzS.run, List.length_cons]
    omega
set_option maxRecDepth 100000 in
set_option maxHeartbeats 2000000 in
theorem decompress_con (G : Gst) (R : ByteSrc G) (T : Tab) (c : Cfg) (hc : c.Ok) (hR : RowsD T c) (M : PM) (hM : PMok M) (d dd db sb g n re pre : Nat) (all bs : List Nat) (hA : At2 all bs pre) (l : List Sym) (S : LzS) (hS : S.Ok bs.length) (hv : ValidAll bs S l) (hrun : (S.run l).i = bs.length) (hlt : S.i < bs.length)
    (hn : pre + bs.length + 300 ≤ n ∧ n ≤ 100000) (hre : re ≤ pre + S.i) (ea : Addr) (eT : TypeId) (ef : Nat × Nat) :
    Con Tryz.prog G 151 #[.pointer (some ⟨d, 0, none⟩)] [DecC d dd sb g 0 bs.length false, DictC dd db n (pre + S.i) re S.i, DictD db all (pre + S.i) n, cel sb 270 (stC T M c S.regs), ChD T M, DecS g R M (symsEv c bs S l), EofA ea eT ef] (fun _ : PM × Regs => eofV ea)
      (fun x => [DecC d dd sb g 0 bs.length true, DictC dd db n (pre + bs.length) re bs.length, DictD db all (pre + bs.length) n, cel sb 270 (stC T x.1 c x.2), ChD T x.1, DecS g R x.1 [], EofA ea eT ef]) := by
  have hb := hS.i
  refine Con.intro Tryz.func151 rfl (by kernel_rfl) Tryz.ntmps151 (Nat.le_of_ble_eq_true rfl) ?_
  intro F
  show JC _ _ _ _ _ _ [(0, _)] _ [_, _, _, _, _, _, _, _]
  refine JC.seq (JC.region ?_)
  refine JO.py (Py.assign ev_const) ?_
  refine JO.nil (JX.code (JC.seq (JC.seq (JC.region ?_))))
  refine JO.py (Py.move xe) ?_
  refine JO.py (Py.nil xe) ?_
  refine JO.py (Py.fld fld237_5 xe xoff) ?_
  refine JO.py (Py.load scal4 xe xpick xrow) ?_
  refine JO.nil (JX.code ?_)
  first | refine JC.condF xe ?_ | refine JC.condF ((xe).trans (vbool (decide_eq_false (by omega)))) ?_
  refine JC.skip (JX.code (JC.seq (JC.block ?_)))
  refine JC.loop (ι := List Sym × LzS × PM) (fun x => ValidAll bs x.2.1 x.1 ∧ x.2.1.Ok bs.length ∧ PMok x.2.2 ∧ (x.2.1.run x.1).i = bs.length ∧ x.2.1.i < bs.length ∧ re ≤ pre + x.2.1.i) (fun x => [(0, .pointer (some ⟨d, 0, none⟩))]) (fun x => [DecC d dd sb g 0 bs.length false, DictC dd db n (pre + x.2.1.i) re x.2.1.i, DictD db all (pre + x.2.1.i) n, cel sb 270 (stC T x.2.2 c x.2.1.regs), ChD T x.2.2, DecS g R x.2.2 (symsEv c bs x.2.1 x.1), EofA ea eT ef, F]) (fun x => bs.length - x.2.1.i) (l, S, M) ⟨hv, hS, hM, hrun, hlt, hre⟩ xag xpkE ?_
  rintro ⟨l1, S1, M1⟩ base' ⟨hv1, hS1, hM1, hr1, hl1, hre1⟩
  dsimp only at hv1 hS1 hM1 hr1 hl1 hre1 ⊢
  rcases l1 with _ | ⟨y, l1⟩
  · exfalso
    simp only [LzS.run] at hr1
    omega
  obtain ⟨hvy, hv2⟩ := hv1
  have hS2 := LzS.next_ok hS1 y hvy
  have hyn := valid_w hvy
  have hni := next_i S1 y
  have hle := hS2.i
  refine JC.as (A := DecS g R M1 (symsEv c bs S1 (y :: l1))) (A' := DecS g R M1 (symEv c bs S1 y ++ symsEv c bs (S1.next y) l1)) xpick (rfl) ?_
  refine JC.seq (JC.seq (JC.region ?_))
  refine JO.py (Py.move xe) ?_
  refine JO.py (Py.nil xe) ?_
  refine JO.py (Py.fld fld237_0 xe xoff) ?_
  refine JO.py (Py.load scal187 xe xpick xrow) ?_
  refine JO.call (Evs.cons xe Evs.nil) (availD_con G dd db n (pre + S1.i) re S1.i hn.2 (by omega)) xpkE ?_
  rintro _
  show JO _ _ _ _ _ _ _ ((14, _) :: _) _ (_ :: _ :: _)
  first | refine JO.py (Py.dec (Py.geq xe ev_const) (by omega)) ?_ | refine JO.py (Py.undec (Py.geq xe ev_const) (by omega)) ?_ | refine JO.py (Py.geq xe ev_const) ?_
  refine JO.nil (JX.code ?_)
  first | refine JC.condT xe ?_ | refine JC.condT ((xe).trans (vbool (decide_eq_true (by omega)))) ?_
  refine JC.skip (JX.code (JC.block (JC.seq (JC.region ?_))))
  refine JO.py (Py.move xe) ?_
  refine JO.call (Evs.cons xe Evs.nil) (readOp_con G R T c hc hR M1 hM1 d dd db sb g 0 bs.length n re pre all bs hA (symsEv c bs (S1.next y) l1) S1 hS1 y hvy (mat_ok hvy (by omega)) hn) xpkE ?_
  rintro _
  show JO _ _ _ _ _ _ _ ((18, _) :: _) _ (_ :: _ :: _ :: _ :: _ :: _ :: _ :: _)
  have hM2 := evsM_ok hM1 (symEv c bs S1 y)
  refine JO.py (Py.move xe) ?_
  refine JO.py (Py.extrI xe xix) ?_
  refine JO.py (Py.extrI xe xix) ?_
  refine JO.py (Py.assign xe) ?_
  refine JO.py (Py.assign xe) ?_
  refine JO.nil (JX.code (JC.seq (JC.seq (JC.region ?_))))
  refine JO.py (Py.move xe) ?_
  refine JO.nil (JX.code (JC.block (JC.seq (JC.region ?_))))
  first | refine JO.py (Py.eqlNil Tryz.underlying70 xe rfl) ?_ | refine JO.py (Py.eqlHeld Tryz.underlying70 xe rfl) ?_
  refine JO.py (Py.assign xe) ?_
  refine JO.nil (JX.code ?_)
  first | refine JC.condT xe ?_ | refine JC.condT ((xe).trans (vbool (decide_eq_true (by omega)))) ?_
  refine JC.skip (JX.blockN (JX.code (JC.seq (JC.seq (JC.region ?_)))))
  refine JO.py (Py.move xe) ?_
  refine JO.py (Py.move xe) ?_
  refine JO.call (Evs.cons xe (Evs.cons xe Evs.nil)) (apply_con G d dd db sb g 0 bs.length n re pre all bs hA S1 hS1 y hvy hn hre1) xpkE ?_
  rintro _
  show JO _ _ _ _ _ _ _ ((63, _) :: _) _ (_ :: _ :: _ :: _ :: _)
  refine JO.py (Py.assign xe) ?_
  refine JO.nil (JX.code (JC.seq (JC.region ?_)))
  refine JO.py (Py.move xe) ?_
  first | refine JO.py (Py.neqNil Tryz.underlying70 xe rfl) ?_ | refine JO.py (Py.neqHeld Tryz.underlying70 xe rfl) ?_
  refine JO.nil (JX.code ?_)
  first | refine JC.condF xe ?_ | refine JC.condF ((xe).trans (vbool (decide_eq_false (by omega)))) ?_
  refine JC.skip (JX.code (JC.seq ?_))
  refine JC.regionM [(0, true), (1, true), (2, true), (3, true), (4, true), (5, true), (6, true), (8, true), (9, true), (10, true), (11, true), (7, false), (12, true), (13, true)] mixed (by kernel_rfl) ?_
  refine JM.py Ao0 ⟨fun _ => Py.move xe⟩ ?_
  refine JM.py Ao1 ⟨fun _ => Py.nil xe⟩ ?_
  refine JM.py Ao2 ⟨fun _ => Py.fld fld237_4 xe xoff⟩ ?_
  refine JM.ld Ao3 scal2 xe xpick xrow ?_
  first | refine JM.py Ao4 ⟨fun _ => Py.dec (Py.geq xe ev_const) (by omega)⟩ ?_ | refine JM.py Ao4 ⟨fun _ => Py.undec (Py.geq xe ev_const) (by omega)⟩ ?_ | refine JM.py Ao4 ⟨fun _ => Py.geq xe ev_const⟩ ?_
  refine JM.py Ao5 ⟨fun _ => Py.move xe⟩ ?_
  first | refine JM.pyG Ao6 rfl (Lk.ev (v := .bool true) xlk rfl) ⟨fun _ => Py.move xe⟩ ?_ | refine JM.skip Ao6 rfl (Lk.ev (v := .bool false) xlk rfl) ?_
  first | refine JM.pyG Ao8 rfl (Lk.ev (v := .bool true) xlk rfl) ⟨fun _ => Py.move xe⟩ ?_ | refine JM.skip Ao8 rfl (Lk.ev (v := .bool false) xlk rfl) ?_
  first | refine JM.pyG Ao9 rfl (Lk.ev (v := .bool true) xlk rfl) ⟨fun _ => Py.nil xe⟩ ?_ | refine JM.skip Ao9 rfl (Lk.ev (v := .bool false) xlk rfl) ?_
  first | refine JM.pyG Ao10 rfl (Lk.ev (v := .bool true) xlk rfl) ⟨fun _ => Py.fld fld237_4 xe xoff⟩ ?_ | refine JM.skip Ao10 rfl (Lk.ev (v := .bool false) xlk rfl) ?_
  first | refine JM.ldG Ao11 rfl (Lk.ev (v := .bool true) xlk rfl) scal2 xe xpick xrow ?_ | refine JM.skip Ao11 rfl (Lk.ev (v := .bool false) xlk rfl) ?_
  refine JM.eff Ao7 ?_
  refine JO.go rfl (Lk.ev (v := .bool true) xlk rfl) ?_
  refine JO.call (Evs.cons xe Evs.nil) (decompressed_con G d dd db sb g 0 bs.length n (pre + (S1.next y).i) re (S1.next y).i false ⟨Nat.zero_le _, by omega⟩) xpkE ?_
  rintro _
  show JO _ _ _ _ _ _ _ ((74, _) :: _) _ (_ :: _ :: _ :: _)
  refine JO.nil ?_
  refine JX.mix (Kept.keep (fun _ hw => hw.cell xpick xrow) (Kept.drop (Forced.trans (q := 4) (Forced.step (by kernel_rfl)) (Forced.trans (q := 5) (Forced.step (by kernel_rfl)) (Forced.step (by kernel_rfl)))) Kept.nil)) ?_
  first | refine JM.pyG Ao12 rfl (Lk.ev (v := .bool true) xlk rfl) ⟨fun _ => Py.dec (Py.geq xe xe) (by omega)⟩ ?_ | refine JM.pyG Ao12 rfl (Lk.ev (v := .bool true) xlk rfl) ⟨fun _ => Py.undec (Py.geq xe xe) (by omega)⟩ ?_ | refine JM.pyG Ao12 rfl (Lk.ev (v := .bool true) xlk rfl) ⟨fun _ => Py.geq xe xe⟩ ?_ | refine JM.skip Ao12 rfl (Lk.ev (v := .bool false) xlk rfl) ?_
  first | refine JM.py Ao13 ⟨fun _ => Py.pickT xe xe⟩ ?_ | refine JM.py Ao13 ⟨fun _ => Py.pickF xe ev_const⟩ ?_
  refine JM.nil (JX.code ?_)
  by_cases hend : (S1.next y).i < bs.length
  · skip
    first | refine JC.condF xe ?_ | refine JC.condF ((xe).trans (vbool (decide_eq_false (by omega)))) ?_
    refine JC.skip (JX.blockN ?_)
    refine JX.loop (l1, S1.next y, evsM M1 (symEv c bs S1 y)) ⟨hv2, hS2, hM2, hr1, hend, by dsimp only; omega⟩ (by dsimp only; omega) xag xpkE
  · skip
    have hz : (S1.next y).i = bs.length := by omega
    have hl0 : l1 = [] := by
      have h1 := run_len l1 (S1.next y) hv2
      simp only [LzS.run] at hr1
      have h2 : l1.length = 0 := by omega
      exact List.length_eq_zero_iff.1 h2
    subst hl0
    first | refine JC.condT xe ?_ | refine JC.condT ((xe).trans (vbool (decide_eq_true (by omega)))) ?_
    refine JC.seq (JC.region ?_)
    refine JO.py (Py.move xe) ?_
    refine JO.py (Py.nil xe) ?_
    refine JO.py (Py.fld fld237_5 xe xoff) ?_
    refine JO.store siz4 xe ev_const (by first | rfl | assumption) xpick xsize xnorm ?_
    refine JO.nil (JX.code (JC.seq (JC.seq ?_)))
    refine JC.regionM [(0, true), (2, true), (3, true), (4, true), (5, true), (1, false), (6, true)] mixed (by kernel_rfl) ?_
    refine JM.py Ao0 ⟨fun _ => Py.move xe⟩ ?_
    refine JM.py Ao2 ⟨fun _ => Py.move xe⟩ ?_
    refine JM.py Ao3 ⟨fun _ => Py.nil xe⟩ ?_
    refine JM.py Ao4 ⟨fun _ => Py.fld fld237_4 xe xoff⟩ ?_
    refine JM.ld Ao5 scal2 xe xpick xrow ?_
    refine JM.eff Ao1 ?_
    refine JO.call (Evs.cons xe Evs.nil) (decompressed_con G d dd db sb g 0 bs.length n (pre + (S1.next y).i) re (S1.next y).i true ⟨Nat.zero_le _, by omega⟩) xpkE ?_
    rintro _
    show JO _ _ _ _ _ _ _ ((85, _) :: _) _ (_ :: _ :: _ :: _)
    refine JO.nil ?_
    refine JX.mix (Kept.keep (fun _ hw => hw.cell xpick xrow) Kept.nil) ?_
    first | refine JM.py Ao6 ⟨fun _ => Py.dec (Py.gtr xe xe) (by omega)⟩ ?_ | refine JM.py Ao6 ⟨fun _ => Py.undec (Py.gtr xe xe) (by omega)⟩ ?_ | refine JM.py Ao6 ⟨fun _ => Py.gtr xe xe⟩ ?_
    refine JM.nil (JX.code ?_)
    first | refine JC.condF xe ?_ | refine JC.condF ((xe).trans (vbool (decide_eq_false (by omega)))) ?_
    refine JC.skip (JX.code (JC.seq (JC.seq (JC.region ?_))))
    refine JO.py (Py.move xe) ?_
    refine JO.py (Py.nil xe) ?_
    refine JO.py (Py.fld fld237_2 xe xoff) ?_
    refine JO.py (Py.load scal235 xe xpick xrow) ?_
    refine JO.as (A := DecS g R (evsM M1 (symEv c bs S1 y)) (symsEv c bs (S1.next y) [])) (A' := DecS g R (evsM M1 (symEv c bs S1 y)) []) xpick (rfl) ?_
    refine JO.call (Evs.cons xe Evs.nil) (atEnd_con G g R (evsM M1 (symEv c bs S1 y))) xpkE ?_
    rintro _
    show JO _ _ _ _ _ _ _ ((96, _) :: _) _ (_ :: _ :: _)
    refine JO.py (Py.not xe (by first | with_reducible exact not_t | with_reducible exact not_f | exact rfl)) ?_
    refine JO.nil (JX.code ?_)
    first | refine JC.condF xe ?_ | refine JC.condF ((xe).trans (vbool (decide_eq_false (by omega)))) ?_
    refine JC.skip (JX.code (JC.seq (JC.region ?_)))
    refine JO.py (Py.load scal70 ev_glob xpick xrow) ?_
    refine JO.py (Py.assign xe) ?_
    refine JO.nil (JX.code (JC.ret (JX.blockR (JX.ret (JX.blockR (JX.ret ?_))))))
    rw [hz]
    refine JX.end1 (Or.inl rfl) ((evsM M1 (symEv c bs S1 y), (S1.next y).regs)) Tryz.results151 ((xe).trans (by first | exact xval | (dsimp only; exact xval))) xpkE
end Go.Proofs.YtfpepghmbeoanaaGreatDoor
end
