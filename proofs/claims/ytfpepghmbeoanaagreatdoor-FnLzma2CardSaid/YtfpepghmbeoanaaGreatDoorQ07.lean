/-
The decoder: one operation is read.
The decoder: matches are read.
The decoder: literals and repetitions are read.
The decoder: one operation is read and done.
-/
import Derived.Test.YtfpepghmbeoanaaGreatDoorQ06
set_option linter.unusedSimpArgs false
set_option linter.unusedVariables false
section
open Go Go.RowKit
namespace Go.Proofs.YtfpepghmbeoanaaGreatDoor
open Lz
abbrev DecC (d dd sb g start size : Nat) (eos : Bool) : Asn := cel d 237 #[.pointer (some ⟨dd, 0, none⟩), .pointer (some ⟨sb, 0, none⟩), .pointer (some ⟨g, 0, none⟩), .int .i64 (start : Int), .int .i64 (size : Int), .bool eos, .bool false]
def LzS.regs (S : LzS) : Regs := ⟨S.r0, S.r1, S.r2, S.r3, S.st⟩
theorem stC_r0 {T : Tab} {M : PM} {c : Cfg} {q : Regs} : (stC T M c q)[0]? = some (.int .u32 (q.r0 : Nat)) := stC_rep (i := 0) (by decide)
theorem stC_r1 {T : Tab} {M : PM} {c : Cfg} {q : Regs} : (stC T M c q)[1]? = some (.int .u32 (q.r1 : Nat)) := stC_rep (i := 1) (by decide)
theorem stC_r2 {T : Tab} {M : PM} {c : Cfg} {q : Regs} : (stC T M c q)[2]? = some (.int .u32 (q.r2 : Nat)) := stC_rep (i := 2) (by decide)
theorem stC_r3 {T : Tab} {M : PM} {c : Cfg} {q : Regs} : (stC T M c q)[3]? = some (.int .u32 (q.r3 : Nat)) := stC_rep (i := 3) (by decide)
theorem byteAt_lt {all : List Nat} {fr hd dist : Nat} (h : ∀ x ∈ all, x < 256) : byteAt all fr hd dist < 256 := by
  unfold byteAt
  split
  · rw [List.getD_eq_getElem?_getD]
    cases hx : all[fr - dist]? with
    | none => simp
    | some v => exact h v (List.mem_of_getElem? hx)
  · decide
theorem litO_leD {c : Cfg} (hc : c.Ok) {hd p : Nat} (hp : p < 256) : c.ls p hd < 2 ^ (c.lc + c.lp) := by
  have h1 : hd % 2 ^ c.lp < 2 ^ c.lp := Nat.mod_lt _ (Nat.pow_pos (by decide))
  have hl := hc.l
  have h2 : p / 2 ^ (8 - c.lc) < 2 ^ c.lc := by
    rw [Nat.div_lt_iff_lt_mul (Nat.pow_pos (by decide)), ← Nat.pow_add, show c.lc + (8 - c.lc) = 8 by omega]; exact hp
  have h3 : (hd % 2 ^ c.lp + 1) * 2 ^ c.lc ≤ 2 ^ c.lp * 2 ^ c.lc := Nat.mul_le_mul_right _ h1
  rw [Nat.add_mul, Nat.one_mul] at h3
  unfold Cfg.ls
  rw [Nat.pow_add, Nat.mul_comm (2 ^ c.lc)]
  omega
set_option maxRecDepth 100000 in
set_option maxHeartbeats 2000000 in
theorem decLit_con (G : Gst) (S : ByteSrc G) (T : Tab) (c : Cfg) (hc : c.Ok) (hR : RowsD T c) (M : PM) (hM : PMok M) (q : Regs) (d dd db sb g start size n fr re hd v old : Nat) (all : List Nat) (l : List Ev) (hall : ∀ x ∈ all, x < 256) (hn : 1 ≤ n ∧ n ≤ 100000) (h : hd + 1 < n) (hf : hd ≤ fr ∧ fr < n)
    (hv : v < 256) (hst : q.st < 12) (hr : q.r0 < 4294967296) (hold : 7 ≤ q.st → byteAt all fr hd (q.r0 + 1) = old) :
    Con Tryz.prog G 163 #[.pointer (some ⟨d, 0, none⟩)] [DecC d dd sb g start size false, DictC dd db n fr re hd, DictD db all fr n, cel sb 270 (stC T M c q), ChD T M, DecS g S M (litEv 21 (768 * c.ls (byteAt all fr hd 1) hd) v q.st old ++ l)] (fun _ : Unit => .tuple #[.iface 347 (.agg #[.int .u8 (v : Int)]), .nilIface])
      (fun _ => [DecC d dd sb g start size false, DictC dd db n fr re hd, DictD db all fr n, cel sb 270 (stC T (evsM M (litEv 21 (768 * c.ls (byteAt all fr hd 1) hd) v q.st old)) c q), ChD T (evsM M (litEv 21 (768 * c.ls (byteAt all fr hd 1) hd) v q.st old)), DecS g S (evsM M (litEv 21 (768 * c.ls (byteAt all fr hd 1) hd) v q.st old)) l]) := by
  have h0 := stC_r0 (T := T) (M := M) (c := c) (q := q)
  have h1 := stC_st (T := T) (M := M) (c := c) (q := q)
  have h2 := stC_lit (T := T) (M := M) (c := c) (q := q)
  have b1 := byteAt_lt (fr := fr) (hd := hd) (dist := 1) hall
  have b2 := byteAt_lt (fr := fr) (hd := hd) (dist := q.r0 + 1) hall
  have hlit := hR.lit
  have hll : 768 * 2 ^ (c.lc + c.lp) ≤ 768 * 2 ^ 4 := Nat.mul_le_mul_left _ (Nat.pow_le_pow_right (by decide) hc.l)
  have hls : c.ls (byteAt all fr hd 1) hd < 2 ^ (c.lc + c.lp) := litO_leD hc b1
  have hlit2 : 768 * c.ls (byteAt all fr hd 1) hd + 768 ≤ T.len 21 := by
    rw [hlit.2]
    have := Nat.mul_le_mul_left 768 (Nat.succ_le_of_lt hls)
    rw [Nat.mul_succ] at this
    exact this
  obtain ⟨p1, hp1⟩ : ∃ x, byteAt all fr hd 1 = x := ⟨_, rfl⟩
  obtain ⟨p2, hp2⟩ : ∃ x, byteAt all fr hd (q.r0 + 1) = x := ⟨_, rfl⟩
  rw [hp1] at b1 hls hlit2 ⊢
  rw [hp2] at b2 hold
  obtain ⟨ls, hlsd⟩ : ∃ x, c.ls p1 hd = x := ⟨_, rfl⟩
  rw [hlsd] at hls hlit2 ⊢
  have hlen : T.len 21 ≤ 100000 := by rw [hlit.2]; omega
  clear hll hls
  refine Con.intro Tryz.func163 rfl (by kernel_rfl) Tryz.ntmps163 (Nat.le_of_ble_eq_true rfl) ?_
  intro F
  show JC _ _ _ _ _ _ [(0, _)] _ [_, _, _, _, _, _, _]
  refine sR ?_
  refine oC ?_
  refine oC ?_
  refine nC (JC.seq ?_)
  refine JC.regionM [(0, true), (1, true), (2, true), (3, true), (4, true), (5, true), (6, true), (7, true), (9, true), (10, true), (11, true), (12, true), (13, true), (14, true), (15, true), (8, false), (16, false), (17, true)] mixed (by kernel_rfl) ?_
  refine JM.py ao ⟨fun _ => Py.move xe⟩ ?_
  refine JM.py ao ⟨fun _ => Py.nil xe⟩ ?_
  refine JM.py ao ⟨fun _ => Py.fld fld237_1 xe xoff⟩ ?_
  refine JM.ld ao scal204 xe xpick xrow ?_
  refine JM.py ao ⟨fun _ => Py.move xe⟩ ?_
  refine JM.py ao ⟨fun _ => Py.nil xe⟩ ?_
  refine JM.py ao ⟨fun _ => Py.fld fld237_0 xe xoff⟩ ?_
  refine JM.ld ao scal187 xe xpick xrow ?_
  refine JM.py ao ⟨fun _ => Py.move xe⟩ ?_
  refine JM.py ao ⟨fun _ => Py.nil xe⟩ ?_
  refine JM.py ao ⟨fun _ => Py.fld fld237_0 xe xoff⟩ ?_
  refine JM.ld ao scal187 xe xpick xrow ?_
  refine JM.py ao ⟨fun _ => Py.nil xe⟩ ?_
  refine JM.py ao ⟨fun _ => Py.fld fld223_1 xe xoff⟩ ?_
  refine JM.ld ao scal2 xe xpick xrow ?_
  refine JM.eff ao ?_
  refine JO.call (Evs.cons xe (Evs.cons ev_const Evs.nil)) (byteAt_con G dd db n fr re hd 1 all hn h hf (by decide) rfl) xpkE ?_
  rintro _
  show JO _ _ _ _ _ _ _ ((15, _) :: _) _ (_ :: _ :: _ :: _)
  rw [hp1]
  refine JO.nil ?_
  refine JX.mix (Kept.keep (fun _ hw => hw.cell xpick xrow) (Kept.keep (fun _ hw => hw.cell xpick xrow) (Kept.drop (Forced.step (by kernel_rfl)) (Kept.keep (fun _ hw => hw.cell xpick xrow) Kept.nil)))) ?_
  refine JM.eff ao ?_
  refine JO.call (Evs.cons xe (Evs.cons xe (Evs.cons xe Evs.nil))) (litState_con G T M c hc q sb p1 hd b1 (by omega)) xpkE ?_
  rintro _
  show JO _ _ _ _ _ _ _ ((23, _) :: _) _ (_ :: _ :: _)
  rw [hlsd]
  refine JO.nil ?_
  refine JX.mix (Kept.drop (Forced.step (by kernel_rfl)) (Kept.drop (Forced.trans (q := 13) (Forced.step (by kernel_rfl)) (Forced.trans (q := 14) (Forced.step (by kernel_rfl)) (Forced.trans (q := 15) (Forced.step (by kernel_rfl)) (Forced.step (by kernel_rfl))))) (Kept.drop (Forced.step (by kernel_rfl)) Kept.nil))) ?_
  refine JM.py ao ⟨fun _ => Py.assign xe⟩ ?_
  refine JM.nil (JX.code (JC.seq ?_))
  refine JC.regionM [(0, true), (1, true), (2, true), (3, true), (4, true), (5, true), (6, true), (7, true), (8, true), (9, true), (10, true), (11, true), (12, true), (13, true), (14, false), (15, true)] mixed (by kernel_rfl) ?_
  refine JM.py ao ⟨fun _ => Py.move xe⟩ ?_
  refine JM.py ao ⟨fun _ => Py.nil xe⟩ ?_
  refine JM.py ao ⟨fun _ => Py.fld fld237_0 xe xoff⟩ ?_
  refine JM.ld ao scal187 xe xpick xrow ?_
  refine JM.py ao ⟨fun _ => Py.move xe⟩ ?_
  refine JM.py ao ⟨fun _ => Py.nil xe⟩ ?_
  refine JM.py ao ⟨fun _ => Py.fld fld237_1 xe xoff⟩ ?_
  refine JM.ld ao scal204 xe xpick xrow ?_
  refine JM.py ao ⟨fun _ => Py.nil xe⟩ ?_
  refine JM.py ao ⟨fun _ => Py.fld fld270_0 xe xoff⟩ ?_
  refine JM.py ao ⟨fun _ => Py.idxA Tryz.underlying249 siz45 xe ev_const (by omega) xidx xmult⟩ ?_
  refine JM.ld ao scal45 xe xpick xrow ?_
  first | refine JM.py ao ⟨fun _ => Py.conv cnv45_3 xe wI⟩ ?_ | refine JM.py ao ⟨fun _ => Py.conv cnv45_3 xe rfl⟩ ?_
  refine JM.py ao ⟨fun _ => Py.add xe ev_const wI⟩ ?_
  refine JM.eff ao ?_
  refine JO.call (Evs.cons xe (Evs.cons xe Evs.nil)) (byteAt_con G dd db n fr re hd (q.r0 + 1) all hn h hf (by omega) (by omega)) xpkE ?_
  rintro _
  show JO _ _ _ _ _ _ _ ((38, _) :: _) _ (_ :: _ :: _ :: _)
  rw [hp2]
  refine JO.nil ?_
  refine JX.mix (Kept.drop (Forced.trans (q := 12) (Forced.step (by kernel_rfl)) (Forced.trans (q := 13) (Forced.step (by kernel_rfl)) (Forced.step (by kernel_rfl)))) (Kept.drop (Forced.trans (q := 8) (Forced.step (by kernel_rfl)) (Forced.trans (q := 9) (Forced.step (by kernel_rfl)) (Forced.trans (q := 10) (Forced.step (by kernel_rfl)) (Forced.trans (q := 11) (Forced.step (by kernel_rfl)) (Forced.trans (q := 12) (Forced.step (by kernel_rfl)) (Forced.trans (q := 13) (Forced.step (by kernel_rfl)) (Forced.step (by kernel_rfl)))))))) (Kept.drop (Forced.step (by kernel_rfl)) Kept.nil))) ?_
  refine JM.py ao ⟨fun _ => Py.assign xe⟩ ?_
  refine JM.nil (JX.code (JC.seq ?_))
  refine JC.regionM [(0, true), (1, true), (2, true), (3, true), (4, true), (5, true), (6, true), (7, true), (8, true), (9, true), (10, true), (11, true), (12, true), (13, true), (14, true), (15, true), (16, true), (17, true), (18, true), (19, false), (20, true), (21, true), (22, true), (23, true), (24, true)] mixed (by kernel_rfl) ?_
  refine JM.py ao ⟨fun _ => Py.move xe⟩ ?_
  refine JM.py ao ⟨fun _ => Py.nil xe⟩ ?_
  refine JM.py ao ⟨fun _ => Py.fld fld237_1 xe xoff⟩ ?_
  refine JM.ld ao scal204 xe xpick xrow ?_
  refine JM.py ao ⟨fun _ => Py.nil xe⟩ ?_
  refine JM.py ao ⟨fun _ => Py.fld fld270_7 xe xoff⟩ ?_
  refine JM.py ao ⟨fun _ => Py.move xe⟩ ?_
  refine JM.py ao ⟨fun _ => Py.nil xe⟩ ?_
  refine JM.py ao ⟨fun _ => Py.fld fld237_2 xe xoff⟩ ?_
  refine JM.ld ao scal235 xe xpick xrow ?_
  refine JM.py ao ⟨fun _ => Py.move xe⟩ ?_
  refine JM.py ao ⟨fun _ => Py.nil xe⟩ ?_
  refine JM.py ao ⟨fun _ => Py.fld fld237_1 xe xoff⟩ ?_
  refine JM.ld ao scal204 xe xpick xrow ?_
  refine JM.py ao ⟨fun _ => Py.nil xe⟩ ?_
  refine JM.py ao ⟨fun _ => Py.fld fld270_11 xe xoff⟩ ?_
  refine JM.ld ao scal45 xe xpick xrow ?_
  refine JM.py ao ⟨fun _ => Py.move xe⟩ ?_
  refine JM.py ao ⟨fun _ => Py.move xe⟩ ?_
  refine JM.eff ao ?_
  refine JO.call (Evs.cons xe (Evs.cons xe (Evs.cons xe (Evs.cons xe (Evs.cons xe Evs.nil))))) (litD_con G g S T hR.ok M hM 21 v q.st old ls p2 l sb 436 270 (0, 0) (stC T M c q) hlit.1 hv hst (fun h7 => ⟨hold h7, by rw [← hold h7]; exact b2⟩) b2 hlit2 hlen h2) xpkE ?_
  rintro _
  show JO _ _ _ _ _ _ _ ((59, _) :: _) _ (_ :: _ :: _ :: _ :: _)
  rw [stC_litE hR hlit.1 M q (768 * ls) v q.st old]
  refine JO.nil ?_
  refine JX.mix (Kept.drop (Forced.step (by kernel_rfl)) (Kept.drop (Forced.trans (q := 14) (Forced.step (by kernel_rfl)) (Forced.trans (q := 15) (Forced.step (by kernel_rfl)) (Forced.trans (q := 16) (Forced.step (by kernel_rfl)) (Forced.step (by kernel_rfl))))) (Kept.drop (Forced.step (by kernel_rfl)) (Kept.drop (Forced.trans (q := 4) (Forced.step (by kernel_rfl)) (Forced.trans (q := 5) (Forced.step (by kernel_rfl)) (Forced.step (by kernel_rfl)))) Kept.nil)))) ?_
  refine JM.py ao ⟨fun _ => Py.move xe⟩ ?_
  refine JM.py ao ⟨fun _ => Py.extrI xe xix⟩ ?_
  refine JM.py ao ⟨fun _ => Py.extrI xe xix⟩ ?_
  refine JM.py ao ⟨fun _ => Py.assign xe⟩ ?_
  refine JM.py ao ⟨fun _ => Py.assign xe⟩ ?_
  refine JM.nil (JX.code (JC.seq (sR ?_)))
  refine oM ?_
  first | refine JO.py (Py.neqNil Tryz.underlying70 xe rfl) ?_ | refine JO.py (Py.neqHeld Tryz.underlying70 xe rfl) ?_
  refine nC ?_
  refine cF ?_
  refine JC.skip (JX.code (sR ?_))
  refine oM ?_
  refine JO.py (Py.build bld347 (Pts.cons xe Pts.nil) xfl) ?_
  refine JO.py (Py.mki mki347 xe) ?_
  refine oA ?_
  refine oC ?_
  refine nC (JC.ret ?_)
  refine JX.end2 (Or.inl rfl) (()) Tryz.results163 (tup2 ((xe).trans (by first | exact xval | (dsimp only; exact xval))) ((xe).trans (by first | exact xval | (dsimp only; exact xval)))) xpkE
end Go.Proofs.YtfpepghmbeoanaaGreatDoor
end

section
open Go Go.RowKit
namespace Go.Proofs.YtfpepghmbeoanaaGreatDoor
open Lz
section
variable {P : Program} {G : Gst} {ops : Array Oper} {Q : Exit → Act → World → Prop} {n' : Nat} {base : Nat → Value} {L : List (Nat × Value)} {D : List Deferred} {As r r' r'' : List Asn} {g sb : Nat} {S : ByteSrc G} {T : Tab} {M : PM} {l : List Ev} {c : Cfg} {q : Regs}
/-- A short name for the chances. -/
theorem JC.renD {x : Code} (q1 : Pick (DecS g S M l) As r) (q2 : Pick (ChD T M) r r') (q3 : Pick (cel sb 270 (stC T M c q)) r' r'') (k : ∀ M2, M2 = M → JC P G Q x n' base L D (DecS g S M2 l :: ChD T M2 :: cel sb 270 (stC T M2 c q) :: r'')) : JC P G Q x n' base L D As :=
  ⟨fun w hw => (k M rfl).run w (hw.of fun hs => stars_tail (fun _ hh => stars_tail (fun _ h3 => q3.to h3) (q2.to hh)) (q1.to hs))⟩
end
theorem viface {t : TypeId} {a b : Value} (h : a = b) : Value.iface t a = Value.iface t b := h ▸ rfl
theorem vagg {a b : Array Value} (h : a = b) : Value.agg a = Value.agg b := h ▸ rfl
theorem set_ne {a : Array Value} {i k : Nat} {v w : Value} (h : a[i]? = some v) (hk : k ≠ i) : (a.setIfInBounds k w)[i]? = some v := by
  rw [Array.getElem?_setIfInBounds, if_neg hk]; exact h
theorem set_lt {a : Array Value} {i k : Nat} {w : Value} (h : i < a.size) : i < (a.setIfInBounds k w).size := by simpa using h
theorem stC_lt {T : Tab} {M : PM} {c : Cfg} {q : Regs} {i : Nat} (h : i < 608) : i < (stC T M c q).size := by rw [stC_size]; exact h
theorem r_ne3 {a b c d e a' b' c' d' e' : Nat} : (∀ j, j < 4 → j ≠ 3 → (Regs.mk a b c d e).r j = (Regs.mk a b c d' e').r j) := fun j h1 h2 => by
  have : j = 0 ∨ j = 1 ∨ j = 2 := by omega
  rcases this with rfl | rfl | rfl <;> rfl
theorem r_ne2 {a b c d e c' e' : Nat} : (∀ j, j < 4 → j ≠ 2 → (Regs.mk a b c d e).r j = (Regs.mk a b c' d e').r j) := fun j h1 h2 => by
  have : j = 0 ∨ j = 1 ∨ j = 3 := by omega
  rcases this with rfl | rfl | rfl <;> rfl
theorem r_ne1 {a b c d e b' e' : Nat} : (∀ j, j < 4 → j ≠ 1 → (Regs.mk a b c d e).r j = (Regs.mk a b' c d e').r j) := fun j h1 h2 => by
  have : j = 0 ∨ j = 2 ∨ j = 3 := by omega
  rcases this with rfl | rfl | rfl <;> rfl
theorem r_ne0 {a b c d e a' e' : Nat} : (∀ j, j < 4 → j ≠ 0 → (Regs.mk a b c d e).r j = (Regs.mk a' b c d e').r j) := fun j h1 h2 => by
  have : j = 1 ∨ j = 2 ∨ j = 3 := by omega
  rcases this with rfl | rfl | rfl <;> rfl
section
variable {T : Tab} {M : PM} {c : Cfg} {a b e f s : Nat}
theorem stC_set3 (x : Nat) : (stC T M c ⟨a, b, e, f, s⟩).setIfInBounds 3 (.int .u32 (x : Nat)) = stC T M c ⟨a, b, e, x, s⟩ := stC_setR (k := 3) x rfl (by decide) rfl (r_ne3 (a' := 0) (b' := 0) (c' := 0)) rfl
theorem stC_set2 (x : Nat) : (stC T M c ⟨a, b, e, f, s⟩).setIfInBounds 2 (.int .u32 (x : Nat)) = stC T M c ⟨a, b, x, f, s⟩ := stC_setR (k := 2) x rfl (by decide) rfl r_ne2 rfl
theorem stC_set1 (x : Nat) : (stC T M c ⟨a, b, e, f, s⟩).setIfInBounds 1 (.int .u32 (x : Nat)) = stC T M c ⟨a, x, e, f, s⟩ := stC_setR (k := 1) x rfl (by decide) rfl r_ne1 rfl
theorem stC_set0 (x : Nat) : (stC T M c ⟨a, b, e, f, s⟩).setIfInBounds 0 (.int .u32 (x : Nat)) = stC T M c ⟨x, b, e, f, s⟩ := stC_setR (k := 0) x rfl (by decide) rfl r_ne0 rfl
theorem stC_rot (q : Regs) : (((stC T M c q).setIfInBounds 3 (.int .u32 (q.r2 : Nat))).setIfInBounds 2 (.int .u32 (q.r1 : Nat))).setIfInBounds 1 (.int .u32 (q.r0 : Nat)) = stC T M c ⟨q.r0, q.r0, q.r1, q.r2, q.st⟩ := by
  obtain ⟨a, b, e, f, s⟩ := q
  rw [stC_set3, stC_set2, stC_set1]
end
/-- What a match is told by. -/
def matEv (st pos m dist : Nat) : List Ev := .bit 0 (16 * st + pos) true :: .bit 1 st false :: (lenEv matI m pos ++ distEv (6 + min (m - 2) 3) dist)
set_option maxRecDepth 100000 in
set_option maxHeartbeats 4000000 in
theorem readMat_con (G : Gst) (S : ByteSrc G) (T : Tab) (c : Cfg) (hc : c.Ok) (hR : RowsD T c) (M : PM) (hM : PMok M) (q : Regs) (d dd db sb g start size n fr re hd m dist : Nat) (all : List Nat) (l : List Ev) (hh : hd < 100000)
    (hst : q.st < 12) (hm : 2 ≤ m ∧ m ≤ 273) (hd2 : dist < 1048576) :
    Con Tryz.prog G 154 #[.pointer (some ⟨d, 0, none⟩)] [DecC d dd sb g start size false, DictC dd db n fr re hd, DictD db all fr n, cel sb 270 (stC T M c q), ChD T M, DecS g S M (matEv q.st (c.pos hd) m dist ++ l)] (fun _ : Unit => .tuple #[.iface 344 (.agg #[.int .i64 (dist + 1 : Nat), .int .i64 (m : Nat)]), .nilIface])
      (fun _ => [DecC d dd sb g start size false, DictC dd db n fr re hd, DictD db all fr n, cel sb 270 (stC T (evsM M (matEv q.st (c.pos hd) m dist)) c ⟨dist, q.r0, q.r1, q.r2, matSt q.st 7 10⟩), ChD T (evsM M (matEv q.st (c.pos hd) m dist)), DecS g S (evsM M (matEv q.st (c.pos hd) m dist)) l]) := by
  have tf : false.toNat = 0 := rfl
  have tt : true.toNat = 1 := rfl
  have hpb : 2 ^ c.pb ≤ 2 ^ 4 := Nat.pow_le_pow_right (by decide) hc.p
  have hpos : c.pos hd < 16 := by
    have := Nat.mod_lt hd (show 0 < 2 ^ c.pb from Nat.pow_pos (by decide))
    unfold Cfg.pos; omega
  obtain ⟨pos, hposd⟩ : ∃ x, c.pos hd = x := ⟨_, rfl⟩
  rw [hposd] at hpos ⊢
  have p0 : (0, 4, 192) ∈ places := by simp [places]
  have p1 : (1, 388, 12) ∈ places := by simp [places]
  have pm : (matI.c, 437, 2) ∈ places := by simp [places, matI]
  unfold matEv
  simp only [List.cons_append, List.append_assoc, evsM_cons, evsM_append]
  refine Con.intro Tryz.func154 rfl (by kernel_rfl) Tryz.ntmps154 (Nat.le_of_ble_eq_true rfl) ?_
  intro F
  show JC _ _ _ _ _ _ [(0, _)] _ [_, _, _, _, _, _, _]
  refine sR ?_
  refine oC ?_
  refine oC ?_
  refine nC (JC.seq ?_)
  refine JC.regionM [(0, true), (1, true), (2, true), (3, true), (4, true), (5, true), (6, true), (7, true), (8, true), (9, true), (10, true), (11, false), (12, true), (13, true), (14, true), (15, true), (16, true), (17, true), (18, true)] mixed (by kernel_rfl) ?_
  refine JM.py ao ⟨fun _ => Py.move xe⟩ ?_
  refine JM.py ao ⟨fun _ => Py.nil xe⟩ ?_
  refine JM.py ao ⟨fun _ => Py.fld fld237_1 xe xoff⟩ ?_
  refine JM.ld ao scal204 xe xpick xrow ?_
  refine JM.py ao ⟨fun _ => Py.move xe⟩ ?_
  refine JM.py ao ⟨fun _ => Py.nil xe⟩ ?_
  refine JM.py ao ⟨fun _ => Py.fld fld237_0 xe xoff⟩ ?_
  refine JM.ld ao scal187 xe xpick xrow ?_
  refine JM.py ao ⟨fun _ => Py.nil xe⟩ ?_
  refine JM.py ao ⟨fun _ => Py.fld fld223_1 xe xoff⟩ ?_
  refine JM.ld ao scal2 xe xpick xrow ?_
  refine JM.eff ao ?_
  refine JO.call (Evs.cons xe (Evs.cons xe Evs.nil)) (states_con G T M c hc q hst sb hd (by omega)) xpkE ?_
  rintro _
  show JO _ _ _ _ _ _ _ ((26, _) :: _) _ (_ :: _ :: _)
  rw [hposd]
  refine JO.nil ?_
  refine JX.mix (Kept.drop (Forced.step (by kernel_rfl)) (Kept.drop (Forced.trans (q := 8) (Forced.step (by kernel_rfl)) (Forced.trans (q := 9) (Forced.step (by kernel_rfl)) (Forced.trans (q := 10) (Forced.step (by kernel_rfl)) (Forced.step (by kernel_rfl))))) (Kept.drop (Forced.step (by kernel_rfl)) Kept.nil))) ?_
  refine JM.py ao ⟨fun _ => Py.move xe⟩ ?_
  refine JM.py ao ⟨fun _ => Py.extrI xe xix⟩ ?_
  refine JM.py ao ⟨fun _ => Py.extrI xe xix⟩ ?_
  refine JM.py ao ⟨fun _ => Py.extrI xe xix⟩ ?_
  refine JM.py ao ⟨fun _ => Py.assign xe⟩ ?_
  refine JM.py ao ⟨fun _ => Py.assign xe⟩ ?_
  refine JM.py ao ⟨fun _ => Py.assign xe⟩ ?_
  refine JM.nil (JX.code (JC.seq ?_))
  refine JC.regionM [(0, true), (1, true), (2, true), (3, true), (4, true), (5, true), (6, true), (7, true), (8, true), (9, true), (10, true), (11, true), (12, false), (13, true), (14, true), (15, true), (16, true), (17, true)] mixed (by kernel_rfl) ?_
  refine JM.py ao ⟨fun _ => Py.move xe⟩ ?_
  refine JM.py ao ⟨fun _ => Py.nil xe⟩ ?_
  refine JM.py ao ⟨fun _ => Py.fld fld237_1 xe xoff⟩ ?_
  refine JM.ld ao scal204 xe xpick xrow ?_
  refine JM.py ao ⟨fun _ => Py.move xe⟩ ?_
  refine JM.py ao ⟨fun _ => Py.nil xe⟩ ?_
  refine JM.py ao ⟨fun _ => Py.fld fld270_1 xe xoff⟩ ?_
  refine JM.py ao ⟨fun _ => Py.idxA Tryz.underlying251 siz250 xe xe (by omega) xidx xmult⟩ ?_
  refine JM.py ao ⟨fun _ => Py.move xe⟩ ?_
  refine JM.py ao ⟨fun _ => Py.nil xe⟩ ?_
  refine JM.py ao ⟨fun _ => Py.fld fld237_2 xe xoff⟩ ?_
  refine JM.ld ao scal235 xe xpick xrow ?_
  refine JM.eff ao ?_
  refine JO.call (Evs.cons xe (Evs.cons xe Evs.nil)) (dbitS G g S hM _ c q sb p0 (ix := 16 * q.st + pos) (by omega) (hR.no _ _ _ p0) true) xpkE ?_
  rintro _
  show JO _ _ _ _ _ _ _ ((43, _) :: _) _ (_ :: _ :: _ :: _ :: _)
  have hM1 := evM_ok hM (.bit 0 (16 * q.st + pos) true)
  refine JO.nil ?_
  refine JX.mix (Kept.drop (Forced.step (by kernel_rfl)) (Kept.drop (Forced.trans (q := 5) (Forced.step (by kernel_rfl)) (Forced.trans (q := 6) (Forced.step (by kernel_rfl)) (Forced.trans (q := 7) (Forced.step (by kernel_rfl)) (Forced.step (by kernel_rfl))))) Kept.nil)) ?_
  refine JM.py ao ⟨fun _ => Py.move xe⟩ ?_
  refine JM.py ao ⟨fun _ => Py.extrI xe xix⟩ ?_
  refine JM.py ao ⟨fun _ => Py.extrI xe xix⟩ ?_
  refine JM.py ao ⟨fun _ => Py.assign xe⟩ ?_
  refine JM.py ao ⟨fun _ => Py.assign xe⟩ ?_
  refine JM.nil (JX.code (JC.seq (sR ?_)))
  refine oM ?_
  first | refine JO.py (Py.neqNil Tryz.underlying70 xe rfl) ?_ | refine JO.py (Py.neqHeld Tryz.underlying70 xe rfl) ?_
  refine nC ?_
  refine cF ?_
  refine JC.skip (JX.code (JC.seq (sR ?_)))
  refine oM ?_
  first | refine oD (Py.eql xe ev_const) ?_ | refine oU (Py.eql xe ev_const) ?_ | refine JO.py (Py.eql xe ev_const) ?_
  refine nC ?_
  refine cF ?_
  refine JC.skip (JX.code (JC.seq ?_))
  refine JC.regionM [(0, true), (1, true), (2, true), (3, true), (4, true), (5, true), (6, true), (7, true), (8, true), (9, true), (10, true), (11, true), (12, false), (13, true), (14, true), (15, true), (16, true), (17, true)] mixed (by kernel_rfl) ?_
  refine JM.py ao ⟨fun _ => Py.move xe⟩ ?_
  refine JM.py ao ⟨fun _ => Py.nil xe⟩ ?_
  refine JM.py ao ⟨fun _ => Py.fld fld237_1 xe xoff⟩ ?_
  refine JM.ld ao scal204 xe xpick xrow ?_
  refine JM.py ao ⟨fun _ => Py.move xe⟩ ?_
  refine JM.py ao ⟨fun _ => Py.nil xe⟩ ?_
  refine JM.py ao ⟨fun _ => Py.fld fld270_3 xe xoff⟩ ?_
  refine JM.py ao ⟨fun _ => Py.idxA Tryz.underlying252 siz250 xe xe (by omega) xidx xmult⟩ ?_
  refine JM.py ao ⟨fun _ => Py.move xe⟩ ?_
  refine JM.py ao ⟨fun _ => Py.nil xe⟩ ?_
  refine JM.py ao ⟨fun _ => Py.fld fld237_2 xe xoff⟩ ?_
  refine JM.ld ao scal235 xe xpick xrow ?_
  refine JM.eff ao ?_
  refine JO.call (Evs.cons xe (Evs.cons xe Evs.nil)) (dbitS G g S hM1 _ c q sb p1 (ix := q.st) (by omega) (hR.no _ _ _ p1) false) xpkE ?_
  rintro _
  show JO _ _ _ _ _ _ _ ((78, _) :: _) _ (_ :: _ :: _ :: _ :: _)
  have hM2 := evM_ok hM1 (.bit 1 q.st false)
  refine JO.nil ?_
  refine JX.mix (Kept.drop (Forced.step (by kernel_rfl)) (Kept.drop (Forced.trans (q := 5) (Forced.step (by kernel_rfl)) (Forced.trans (q := 6) (Forced.step (by kernel_rfl)) (Forced.trans (q := 7) (Forced.step (by kernel_rfl)) (Forced.step (by kernel_rfl))))) Kept.nil)) ?_
  refine JM.py ao ⟨fun _ => Py.move xe⟩ ?_
  refine JM.py ao ⟨fun _ => Py.extrI xe xix⟩ ?_
  refine JM.py ao ⟨fun _ => Py.extrI xe xix⟩ ?_
  refine JM.py ao ⟨fun _ => Py.assign xe⟩ ?_
  refine JM.py ao ⟨fun _ => Py.assign xe⟩ ?_
  refine JM.nil (JX.code (JC.seq (sR ?_)))
  refine oM ?_
  first | refine JO.py (Py.neqNil Tryz.underlying70 xe rfl) ?_ | refine JO.py (Py.neqHeld Tryz.underlying70 xe rfl) ?_
  refine nC ?_
  refine cF ?_
  refine JC.skip (JX.code (JC.seq (sR ?_)))
  refine oM ?_
  first | refine oD (Py.eql xe ev_const) ?_ | refine oU (Py.eql xe ev_const) ?_ | refine JO.py (Py.eql xe ev_const) ?_
  refine nC ?_
  refine cT ?_
  refine JC.seq ?_
  refine JC.renD xpick xpick xpick ?_
  intro M2 hM2d
  rw [← hM2d] at hM2
  have r0 := stC_r0 (T := T) (M := M2) (c := c) (q := q)
  have r1 := stC_r1 (T := T) (M := M2) (c := c) (q := q)
  have r2 := stC_r2 (T := T) (M := M2) (c := c) (q := q)
  have z3 := stC_lt (T := T) (M := M2) (c := c) (q := q) (i := 3) (by decide)
  have z2 := set_lt (k := 3) (w := .int .u32 (q.r2 : Nat)) (stC_lt (T := T) (M := M2) (c := c) (q := q) (i := 2) (by decide))
  have z1 := set_lt (k := 2) (w := .int .u32 (q.r1 : Nat)) (set_lt (k := 3) (w := .int .u32 (q.r2 : Nat)) (stC_lt (T := T) (M := M2) (c := c) (q := q) (i := 1) (by decide)))
  have s1 := set_ne (k := 3) (w := .int .u32 (q.r2 : Nat)) r1 (by decide)
  have s0 := set_ne (k := 3) (w := .int .u32 (q.r2 : Nat)) r0 (by decide)
  have s00 := set_ne (k := 2) (w := .int .u32 (q.r1 : Nat)) s0 (by decide)
  refine JC.regionM [(0, true), (1, true), (2, true), (3, true), (4, true), (5, true), (6, true), (7, true), (8, true), (9, true), (10, true), (11, true), (12, true), (13, true), (14, true), (15, true), (16, true), (17, true), (18, true), (19, true), (20, true), (21, true), (22, true), (23, true), (24, true), (25, true), (26, true), (27, true), (28, true), (29, true), (30, true), (31, true), (32, true), (33, true), (34, true), (35, true), (36, true), (37, true), (38, true), (40, true), (41, true), (44, true), (45, true), (39, false), (42, true), (43, false), (46, true), (47, false)] mixed (by kernel_rfl) ?_
  refine JM.py ao ⟨fun _ => Py.move xe⟩ ?_
  refine JM.py ao ⟨fun _ => Py.nil xe⟩ ?_
  refine JM.py ao ⟨fun _ => Py.fld fld237_1 xe xoff⟩ ?_
  refine JM.ld ao scal204 xe xpick xrow ?_
  refine JM.py ao ⟨fun _ => Py.move xe⟩ ?_
  refine JM.py ao ⟨fun _ => Py.nil xe⟩ ?_
  refine JM.py ao ⟨fun _ => Py.fld fld237_1 xe xoff⟩ ?_
  refine JM.ld ao scal204 xe xpick xrow ?_
  refine JM.py ao ⟨fun _ => Py.move xe⟩ ?_
  refine JM.py ao ⟨fun _ => Py.nil xe⟩ ?_
  refine JM.py ao ⟨fun _ => Py.fld fld237_1 xe xoff⟩ ?_
  refine JM.ld ao scal204 xe xpick xrow ?_
  refine JM.py ao ⟨fun _ => Py.move xe⟩ ?_
  refine JM.py ao ⟨fun _ => Py.nil xe⟩ ?_
  refine JM.py ao ⟨fun _ => Py.fld fld237_1 xe xoff⟩ ?_
  refine JM.ld ao scal204 xe xpick xrow ?_
  refine JM.py ao ⟨fun _ => Py.nil xe⟩ ?_
  refine JM.py ao ⟨fun _ => Py.fld fld270_0 xe xoff⟩ ?_
  refine JM.py ao ⟨fun _ => Py.idxA Tryz.underlying249 siz45 xe ev_const (by omega) xidx xmult⟩ ?_
  refine JM.ld ao scal45 xe xpick xrow ?_
  refine JM.py ao ⟨fun _ => Py.move xe⟩ ?_
  refine JM.py ao ⟨fun _ => Py.nil xe⟩ ?_
  refine JM.py ao ⟨fun _ => Py.fld fld237_1 xe xoff⟩ ?_
  refine JM.ld ao scal204 xe xpick xrow ?_
  refine JM.py ao ⟨fun _ => Py.nil xe⟩ ?_
  refine JM.py ao ⟨fun _ => Py.fld fld270_0 xe xoff⟩ ?_
  refine JM.py ao ⟨fun _ => Py.idxA Tryz.underlying249 siz45 xe ev_const (by omega) xidx xmult⟩ ?_
  refine JM.ld ao scal45 xe xpick xrow ?_
  refine JM.py ao ⟨fun _ => Py.move xe⟩ ?_
  refine JM.py ao ⟨fun _ => Py.nil xe⟩ ?_
  refine JM.py ao ⟨fun _ => Py.fld fld237_1 xe xoff⟩ ?_
  refine JM.ld ao scal204 xe xpick xrow ?_
  refine JM.py ao ⟨fun _ => Py.nil xe⟩ ?_
  refine JM.py ao ⟨fun _ => Py.fld fld270_0 xe xoff⟩ ?_
  refine JM.py ao ⟨fun _ => Py.idxA Tryz.underlying249 siz45 xe ev_const (by omega) xidx xmult⟩ ?_
  refine JM.ld ao scal45 xe xpick xrow ?_
  refine JM.py ao ⟨fun _ => Py.nil xe⟩ ?_
  refine JM.py ao ⟨fun _ => Py.fld fld270_0 xe xoff⟩ ?_
  refine JM.py ao ⟨fun _ => Py.idxA Tryz.underlying249 siz45 xe ev_const (by omega) xidx xmult⟩ ?_
  refine JM.py ao ⟨fun _ => Py.nil xe⟩ ?_
  refine JM.py ao ⟨fun _ => Py.fld fld270_0 xe xoff⟩ ?_
  refine JM.py ao ⟨fun _ => Py.nil xe⟩ ?_
  refine JM.py ao ⟨fun _ => Py.fld fld270_0 xe xoff⟩ ?_
  refine JM.eff ao ?_
  refine JO.store siz45 xe xe (by first | rfl | assumption) xpick xsize xnorm ?_
  refine JO.nil ?_
  refine JX.mix (Kept.drop (Forced.step (by kernel_rfl)) (Kept.drop (Forced.step (by kernel_rfl)) (Kept.drop (Forced.step (by kernel_rfl)) (Kept.drop (Forced.step (by kernel_rfl)) (Kept.drop (Forced.step (by kernel_rfl)) (Kept.drop (Forced.step (by kernel_rfl)) (Kept.drop (Forced.step (by kernel_rfl)) (Kept.drop (Forced.step (by kernel_rfl)) (Kept.drop (Forced.step (by kernel_rfl)) Kept.nil))))))))) ?_
  refine JM.py ao ⟨fun _ => Py.idxA Tryz.underlying249 siz45 xe ev_const (by omega) xidx xmult⟩ ?_
  refine JM.eff ao ?_
  refine JO.store siz45 xe xe (by first | rfl | assumption) xpick xsize xnorm ?_
  refine JO.nil ?_
  refine JX.mix Kept.nil ?_
  refine JM.py ao ⟨fun _ => Py.idxA Tryz.underlying249 siz45 xe ev_const (by omega) xidx xmult⟩ ?_
  refine JM.eff ao ?_
  refine JO.store siz45 xe xe (by first | rfl | assumption) xpick xsize xnorm ?_
  refine JO.nil ?_
  refine JX.mix Kept.nil ?_
  refine JM.nil (JX.code (JC.seq ?_))
  refine JC.as (A := cel sb 270 _) (A' := cel sb 270 (stC T M2 c ⟨q.r0, q.r0, q.r1, q.r2, q.st⟩)) xpick (cel_eq (by exact stC_rot q)) ?_
  refine JC.region ?_
  refine oM ?_
  refine JO.py (Py.nil xe) ?_
  refine JO.py (Py.fld fld237_1 xe xoff) ?_
  refine JO.py (Py.load scal204 xe xpick xrow) ?_
  refine JO.call (Evs.cons xe Evs.nil) (updMat_con G T M2 c ⟨q.r0, q.r0, q.r1, q.r2, q.st⟩ sb hst) xpkE ?_
  rintro _
  show JO _ _ _ _ _ _ _ ((135, _) :: _) _ (_ :: _ :: _)
  refine JO.as (A := cel sb 270 _) (A' := cel sb 270 (stC T M2 c ⟨q.r0, q.r0, q.r1, q.r2, matSt q.st 7 10⟩)) xpick (cel_eq (by exact rfl)) ?_
  refine nC (JC.seq ?_)
  refine JC.regionM [(0, true), (1, true), (2, true), (3, true), (4, true), (5, true), (6, true), (7, true), (8, true), (9, true), (10, true), (11, false), (12, true), (13, true), (14, true), (15, true), (16, true)] mixed (by kernel_rfl) ?_
  refine JM.py ao ⟨fun _ => Py.move xe⟩ ?_
  refine JM.py ao ⟨fun _ => Py.nil xe⟩ ?_
  refine JM.py ao ⟨fun _ => Py.fld fld237_1 xe xoff⟩ ?_
  refine JM.ld ao scal204 xe xpick xrow ?_
  refine JM.py ao ⟨fun _ => Py.nil xe⟩ ?_
  refine JM.py ao ⟨fun _ => Py.fld fld270_8 xe xoff⟩ ?_
  refine JM.py ao ⟨fun _ => Py.move xe⟩ ?_
  refine JM.py ao ⟨fun _ => Py.nil xe⟩ ?_
  refine JM.py ao ⟨fun _ => Py.fld fld237_2 xe xoff⟩ ?_
  refine JM.ld ao scal235 xe xpick xrow ?_
  refine JM.py ao ⟨fun _ => Py.move xe⟩ ?_
  refine JM.eff ao ?_
  refine JO.call (Evs.cons xe (Evs.cons xe (Evs.cons xe Evs.nil))) (lengthD_con G g S T c hR M2 hM2 matI hR.mat 437 m pos (distEv (6 + min (m - 2) 3) dist ++ l) ⟨q.r0, q.r0, q.r1, q.r2, matSt q.st 7 10⟩ sb pm (fun M j hj => stC_mat hj) hm hpos) xpkE ?_
  rintro _
  show JO _ _ _ _ _ _ _ ((148, _) :: _) _ (_ :: _ :: _ :: _ :: _)
  have hM3 := evsM_ok hM2 (lenEv matI m pos)
  refine JO.nil ?_
  refine JX.mix (Kept.drop (Forced.step (by kernel_rfl)) (Kept.drop (Forced.trans (q := 4) (Forced.step (by kernel_rfl)) (Forced.trans (q := 5) (Forced.step (by kernel_rfl)) (Forced.step (by kernel_rfl)))) Kept.nil)) ?_
  refine JM.py ao ⟨fun _ => Py.move xe⟩ ?_
  refine JM.py ao ⟨fun _ => Py.extrI xe xix⟩ ?_
  refine JM.py ao ⟨fun _ => Py.extrI xe xix⟩ ?_
  refine JM.py ao ⟨fun _ => Py.assign xe⟩ ?_
  refine JM.py ao ⟨fun _ => Py.assign xe⟩ ?_
  refine JM.nil (JX.code (JC.seq (sR ?_)))
  refine oM ?_
  first | refine JO.py (Py.neqNil Tryz.underlying70 xe rfl) ?_ | refine JO.py (Py.neqHeld Tryz.underlying70 xe rfl) ?_
  refine nC ?_
  refine cF ?_
  refine JC.skip (JX.code (JC.seq ?_))
  refine JC.renD xpick xpick xpick ?_
  intro M3 hM3d
  rw [← hM3d] at hM3
  refine JC.regionM [(0, true), (1, true), (2, true), (3, true), (4, true), (5, true), (6, true), (7, true), (8, true), (9, true), (10, true), (11, true), (12, true), (13, true), (14, true), (19, true), (20, true), (15, false), (16, true), (17, true), (18, true), (21, true), (22, false), (23, true)] mixed (by kernel_rfl) ?_
  refine JM.py ao ⟨fun _ => Py.move xe⟩ ?_
  refine JM.py ao ⟨fun _ => Py.nil xe⟩ ?_
  refine JM.py ao ⟨fun _ => Py.fld fld237_1 xe xoff⟩ ?_
  refine JM.ld ao scal204 xe xpick xrow ?_
  refine JM.py ao ⟨fun _ => Py.move xe⟩ ?_
  refine JM.py ao ⟨fun _ => Py.nil xe⟩ ?_
  refine JM.py ao ⟨fun _ => Py.fld fld237_1 xe xoff⟩ ?_
  refine JM.ld ao scal204 xe xpick xrow ?_
  refine JM.py ao ⟨fun _ => Py.nil xe⟩ ?_
  refine JM.py ao ⟨fun _ => Py.fld fld270_10 xe xoff⟩ ?_
  refine JM.py ao ⟨fun _ => Py.move xe⟩ ?_
  refine JM.py ao ⟨fun _ => Py.nil xe⟩ ?_
  refine JM.py ao ⟨fun _ => Py.fld fld237_2 xe xoff⟩ ?_
  refine JM.ld ao scal235 xe xpick xrow ?_
  refine JM.py ao ⟨fun _ => Py.move xe⟩ ?_
  refine JM.py ao ⟨fun _ => Py.nil xe⟩ ?_
  refine JM.py ao ⟨fun _ => Py.fld fld270_0 xe xoff⟩ ?_
  refine JM.eff ao ?_
  refine JO.call (Evs.cons xe (Evs.cons xe (Evs.cons xe Evs.nil))) (distD_con G g S T c hR M3 hM3 m dist l ⟨q.r0, q.r0, q.r1, q.r2, matSt q.st 7 10⟩ sb hm hd2) xpkE ?_
  rintro _
  show JO _ _ _ _ _ _ _ ((170, _) :: _) _ (_ :: _ :: _ :: _ :: _)
  have z0 := stC_lt (T := T) (M := evsM M3 (distEv (6 + min (m - 2) 3) dist)) (c := c) (q := ⟨q.r0, q.r0, q.r1, q.r2, matSt q.st 7 10⟩) (i := 0) (by decide)
  refine JO.nil ?_
  refine JX.mix (Kept.drop (Forced.step (by kernel_rfl)) (Kept.drop (Forced.trans (q := 8) (Forced.step (by kernel_rfl)) (Forced.trans (q := 9) (Forced.step (by kernel_rfl)) (Forced.step (by kernel_rfl)))) (Kept.keep (fun _ hw => hw.cell xpick xrow) Kept.nil))) ?_
  refine JM.py ao ⟨fun _ => Py.move xe⟩ ?_
  refine JM.py ao ⟨fun _ => Py.extrI xe xix⟩ ?_
  refine JM.py ao ⟨fun _ => Py.extrI xe xix⟩ ?_
  refine JM.py ao ⟨fun _ => Py.idxA Tryz.underlying249 siz45 xe ev_const (by omega) xidx xmult⟩ ?_
  refine JM.eff ao ?_
  refine JO.store siz45 xe xe (by first | rfl | assumption) xpick xsize xnorm ?_
  refine JO.nil ?_
  refine JX.mix (Kept.drop (Forced.step (by kernel_rfl)) Kept.nil) ?_
  refine JM.py ao ⟨fun _ => Py.assign xe⟩ ?_
  refine JM.nil (JX.code (JC.seq (JC.seq ?_)))
  refine JC.as (A := cel sb 270 _) (A' := cel sb 270 (stC T (evsM M3 (distEv (6 + min (m - 2) 3) dist)) c ⟨dist, q.r0, q.r1, q.r2, matSt q.st 7 10⟩)) xpick (cel_eq (by exact stC_set0 dist)) ?_
  have f0 : (stC T (evsM M3 (distEv (6 + min (m - 2) 3) dist)) c ⟨dist, q.r0, q.r1, q.r2, matSt q.st 7 10⟩)[0]? = some (.int .u32 (dist : Nat)) := stC_r0
  refine JC.region ?_
  refine oM ?_
  first | refine JO.py (Py.neqNil Tryz.underlying70 xe rfl) ?_ | refine JO.py (Py.neqHeld Tryz.underlying70 xe rfl) ?_
  refine nC ?_
  refine cF ?_
  refine JC.skip (JX.code (JC.seq (sR ?_)))
  refine oM ?_
  refine JO.py (Py.nil xe) ?_
  refine JO.py (Py.fld fld237_1 xe xoff) ?_
  refine JO.py (Py.load scal204 xe xpick xrow) ?_
  refine JO.py (Py.nil xe) ?_
  refine JO.py (Py.fld fld270_0 xe xoff) ?_
  refine JO.py (Py.idxA Tryz.underlying249 siz45 xe ev_const (by omega) xidx xmult) ?_
  refine JO.py (Py.load scal45 xe xpick xrow) ?_
  first | refine oD (Py.eql xe ev_const) ?_ | refine oU (Py.eql xe ev_const) ?_ | refine JO.py (Py.eql xe ev_const) ?_
  refine nC ?_
  refine cF ?_
  refine JC.skip (JX.code (sR ?_))
  refine oM ?_
  first | refine JO.py (Py.conv cnv45_3 xe wI) ?_ | refine JO.py (Py.conv cnv45_3 xe rfl) ?_
  refine JO.py (Py.add xe ev_const wI) ?_
  refine oM ?_
  refine JO.py (Py.nil xe) ?_
  refine JO.py (Py.fld fld237_1 xe xoff) ?_
  refine JO.py (Py.load scal204 xe xpick xrow) ?_
  refine JO.py (Py.nil xe) ?_
  refine JO.py (Py.fld fld270_0 xe xoff) ?_
  refine JO.py (Py.idxA Tryz.underlying249 siz45 xe ev_const (by omega) xidx xmult) ?_
  refine JO.py (Py.load scal45 xe xpick xrow) ?_
  first | refine JO.py (Py.conv cnv45_2 xe wI) ?_ | refine JO.py (Py.conv cnv45_2 xe rfl) ?_
  refine JO.py (Py.add xe ev_const wI) ?_
  refine JO.py (Py.build bld344 (Pts.cons xe (Pts.cons xe Pts.nil)) xfl) ?_
  refine JO.py (Py.mki mki344 xe) ?_
  refine oA ?_
  refine nC (sR ?_)
  refine oM ?_
  refine oA ?_
  refine oC ?_
  refine nC (JC.ret (JX.ret ?_))
  subst hM3d
  subst hM2d
  refine JX.end2 (Or.inl rfl) (()) Tryz.results154 (tup2 ((xe).trans (by exact viface (vagg (varr (vcons (vint (by omega)) (vcons (vint (by omega)) rfl)))))) ((xe).trans (xval))) xpkE
end Go.Proofs.YtfpepghmbeoanaaGreatDoor
end

section
open Go Go.RowKit
namespace Go.Proofs.YtfpepghmbeoanaaGreatDoor
open Lz
set_option maxRecDepth 100000 in
set_option maxHeartbeats 4000000 in
theorem readLit_con (G : Gst) (S : ByteSrc G) (T : Tab) (c : Cfg) (hc : c.Ok) (hR : RowsD T c) (M : PM) (hM : PMok M) (q : Regs) (d dd db sb g start size n fr re hd v old : Nat) (all : List Nat) (l : List Ev) (hall : ∀ x ∈ all, x < 256) (hn : 1 ≤ n ∧ n ≤ 100000) (h : hd + 1 < n) (hf : hd ≤ fr ∧ fr < n)
    (hv : v < 256) (hst : q.st < 12) (hr : q.r0 < 4294967296) (hold : 7 ≤ q.st → byteAt all fr hd (q.r0 + 1) = old) :
    Con Tryz.prog G 154 #[.pointer (some ⟨d, 0, none⟩)] [DecC d dd sb g start size false, DictC dd db n fr re hd, DictD db all fr n, cel sb 270 (stC T M c q), ChD T M, DecS g S M (.bit 0 (16 * q.st + c.pos hd) false :: (litEv 21 (768 * c.ls (byteAt all fr hd 1) hd) v q.st old ++ l))] (fun _ : Unit => .tuple #[.iface 347 (.agg #[.int .u8 (v : Int)]), .nilIface])
      (fun _ => [DecC d dd sb g start size false, DictC dd db n fr re hd, DictD db all fr n, cel sb 270 (stC T (evsM M (.bit 0 (16 * q.st + c.pos hd) false :: litEv 21 (768 * c.ls (byteAt all fr hd 1) hd) v q.st old)) c ⟨q.r0, q.r1, q.r2, q.r3, litSt q.st⟩), ChD T (evsM M (.bit 0 (16 * q.st + c.pos hd) false :: litEv 21 (768 * c.ls (byteAt all fr hd 1) hd) v q.st old)), DecS g S (evsM M (.bit 0 (16 * q.st + c.pos hd) false :: litEv 21 (768 * c.ls (byteAt all fr hd 1) hd) v q.st old)) l]) := by
  have tf : false.toNat = 0 := rfl
  have hpb : 2 ^ c.pb ≤ 2 ^ 4 := Nat.pow_le_pow_right (by decide) hc.p
  have hpos : c.pos hd < 16 := by
    have := Nat.mod_lt hd (show 0 < 2 ^ c.pb from Nat.pow_pos (by decide))
    unfold Cfg.pos; omega
  obtain ⟨pos, hposd⟩ : ∃ x, c.pos hd = x := ⟨_, rfl⟩
  rw [hposd] at hpos ⊢
  have p0 : (0, 4, 192) ∈ places := by simp [places]
  simp only [evsM_cons]
  refine Con.intro Tryz.func154 rfl (by kernel_rfl) Tryz.ntmps154 (Nat.le_of_ble_eq_true rfl) ?_
  intro F
  show JC _ _ _ _ _ _ [(0, _)] _ [_, _, _, _, _, _, _]
  refine sR ?_
  refine oC ?_
  refine oC ?_
  refine nC (JC.seq ?_)
  refine JC.regionM [(0, true), (1, true), (2, true), (3, true), (4, true), (5, true), (6, true), (7, true), (8, true), (9, true), (10, true), (11, false), (12, true), (13, true), (14, true), (15, true), (16, true), (17, true), (18, true)] mixed (by kernel_rfl) ?_
  refine JM.py ao ⟨fun _ => Py.move xe⟩ ?_
  refine JM.py ao ⟨fun _ => Py.nil xe⟩ ?_
  refine JM.py ao ⟨fun _ => Py.fld fld237_1 xe xoff⟩ ?_
  refine JM.ld ao scal204 xe xpick xrow ?_
  refine JM.py ao ⟨fun _ => Py.move xe⟩ ?_
  refine JM.py ao ⟨fun _ => Py.nil xe⟩ ?_
  refine JM.py ao ⟨fun _ => Py.fld fld237_0 xe xoff⟩ ?_
  refine JM.ld ao scal187 xe xpick xrow ?_
  refine JM.py ao ⟨fun _ => Py.nil xe⟩ ?_
  refine JM.py ao ⟨fun _ => Py.fld fld223_1 xe xoff⟩ ?_
  refine JM.ld ao scal2 xe xpick xrow ?_
  refine JM.eff ao ?_
  refine JO.call (Evs.cons xe (Evs.cons xe Evs.nil)) (states_con G T M c hc q hst sb hd (by omega)) xpkE ?_
  rintro _
  show JO _ _ _ _ _ _ _ ((26, _) :: _) _ (_ :: _ :: _)
  rw [hposd]
  refine JO.nil ?_
  refine JX.mix (Kept.drop (Forced.step (by kernel_rfl)) (Kept.drop (Forced.trans (q := 8) (Forced.step (by kernel_rfl)) (Forced.trans (q := 9) (Forced.step (by kernel_rfl)) (Forced.trans (q := 10) (Forced.step (by kernel_rfl)) (Forced.step (by kernel_rfl))))) (Kept.drop (Forced.step (by kernel_rfl)) Kept.nil))) ?_
  refine JM.py ao ⟨fun _ => Py.move xe⟩ ?_
  refine JM.py ao ⟨fun _ => Py.extrI xe xix⟩ ?_
  refine JM.py ao ⟨fun _ => Py.extrI xe xix⟩ ?_
  refine JM.py ao ⟨fun _ => Py.extrI xe xix⟩ ?_
  refine JM.py ao ⟨fun _ => Py.assign xe⟩ ?_
  refine JM.py ao ⟨fun _ => Py.assign xe⟩ ?_
  refine JM.py ao ⟨fun _ => Py.assign xe⟩ ?_
  refine JM.nil (JX.code (JC.seq ?_))
  refine JC.regionM [(0, true), (1, true), (2, true), (3, true), (4, true), (5, true), (6, true), (7, true), (8, true), (9, true), (10, true), (11, true), (12, false), (13, true), (14, true), (15, true), (16, true), (17, true)] mixed (by kernel_rfl) ?_
  refine JM.py ao ⟨fun _ => Py.move xe⟩ ?_
  refine JM.py ao ⟨fun _ => Py.nil xe⟩ ?_
  refine JM.py ao ⟨fun _ => Py.fld fld237_1 xe xoff⟩ ?_
  refine JM.ld ao scal204 xe xpick xrow ?_
  refine JM.py ao ⟨fun _ => Py.move xe⟩ ?_
  refine JM.py ao ⟨fun _ => Py.nil xe⟩ ?_
  refine JM.py ao ⟨fun _ => Py.fld fld270_1 xe xoff⟩ ?_
  refine JM.py ao ⟨fun _ => Py.idxA Tryz.underlying251 siz250 xe xe (by omega) xidx xmult⟩ ?_
  refine JM.py ao ⟨fun _ => Py.move xe⟩ ?_
  refine JM.py ao ⟨fun _ => Py.nil xe⟩ ?_
  refine JM.py ao ⟨fun _ => Py.fld fld237_2 xe xoff⟩ ?_
  refine JM.ld ao scal235 xe xpick xrow ?_
  refine JM.eff ao ?_
  refine JO.call (Evs.cons xe (Evs.cons xe Evs.nil)) (dbitS G g S hM _ c q sb p0 (ix := 16 * q.st + pos) (by omega) (hR.no _ _ _ p0) false) xpkE ?_
  rintro _
  show JO _ _ _ _ _ _ _ ((43, _) :: _) _ (_ :: _ :: _ :: _ :: _)
  have hM1 := evM_ok hM (.bit 0 (16 * q.st + pos) false)
  refine JO.nil ?_
  refine JX.mix (Kept.drop (Forced.step (by kernel_rfl)) (Kept.drop (Forced.trans (q := 5) (Forced.step (by kernel_rfl)) (Forced.trans (q := 6) (Forced.step (by kernel_rfl)) (Forced.trans (q := 7) (Forced.step (by kernel_rfl)) (Forced.step (by kernel_rfl))))) Kept.nil)) ?_
  refine JM.py ao ⟨fun _ => Py.move xe⟩ ?_
  refine JM.py ao ⟨fun _ => Py.extrI xe xix⟩ ?_
  refine JM.py ao ⟨fun _ => Py.extrI xe xix⟩ ?_
  refine JM.py ao ⟨fun _ => Py.assign xe⟩ ?_
  refine JM.py ao ⟨fun _ => Py.assign xe⟩ ?_
  refine JM.nil (JX.code (JC.seq (sR ?_)))
  refine oM ?_
  first | refine JO.py (Py.neqNil Tryz.underlying70 xe rfl) ?_ | refine JO.py (Py.neqHeld Tryz.underlying70 xe rfl) ?_
  refine nC ?_
  refine cF ?_
  refine JC.skip (JX.code (JC.seq (sR ?_)))
  refine oM ?_
  first | refine oD (Py.eql xe ev_const) ?_ | refine oU (Py.eql xe ev_const) ?_ | refine JO.py (Py.eql xe ev_const) ?_
  refine nC ?_
  refine cT ?_
  refine sR ?_
  refine oM ?_
  refine JO.call (Evs.cons xe Evs.nil) (decLit_con G S T c hc hR _ hM1 q d dd db sb g start size n fr re hd v old all l hall hn h hf hv hst hr hold) xpkE ?_
  rintro _
  show JO _ _ _ _ _ _ _ ((53, _) :: _) _ (_ :: _ :: _ :: _ :: _ :: _ :: _ :: _)
  refine oM ?_
  refine JO.py (Py.extrI xe xix) ?_
  refine JO.py (Py.extrI xe xix) ?_
  refine oA ?_
  refine oA ?_
  refine nC (JC.seq (sR ?_))
  refine oM ?_
  first | refine JO.py (Py.neqNil Tryz.underlying70 xe rfl) ?_ | refine JO.py (Py.neqHeld Tryz.underlying70 xe rfl) ?_
  refine nC ?_
  refine cF ?_
  refine JC.skip (JX.code (sR ?_))
  refine oM ?_
  refine JO.py (Py.nil xe) ?_
  refine JO.py (Py.fld fld237_1 xe xoff) ?_
  refine JO.py (Py.load scal204 xe xpick xrow) ?_
  refine JO.call (Evs.cons xe Evs.nil) (updLit_con G T _ c q hst sb) xpkE ?_
  rintro _
  show JO _ _ _ _ _ _ _ ((63, _) :: _) _ (_ :: _ :: _)
  refine JO.as (A := cel sb 270 _) (A' := cel sb 270 (stC T (evsM (evM M (.bit 0 (16 * q.st + pos) false)) (litEv 21 (768 * c.ls (byteAt all fr hd 1) hd) v q.st old)) c ⟨q.r0, q.r1, q.r2, q.r3, litSt q.st⟩)) xpick (cel_eq (by exact rfl)) ?_
  refine nC (sR ?_)
  refine oM ?_
  refine oA ?_
  refine oC ?_
  refine nC (JC.ret (JX.ret ?_))
  refine JX.end2 (Or.inl rfl) (()) Tryz.results154 (tup2 ((xe).trans (by first | exact xval | (dsimp only; exact xval))) ((xe).trans (by first | exact xval | (dsimp only; exact xval)))) xpkE
def repT (st p k : Nat) : List Ev := if k = 0 then [.bit 5 (16 * st + p) true] else if k = 1 then [.bit 3 st false] else [.bit 3 st true, .bit 4 st (k == 3)]
theorem repEv_eq (st p k : Nat) : repEv st p k = .bit 2 st (k != 0) :: repT st p k := by
  unfold repEv repT
  by_cases h : k = 0
  · subst h; rfl
  · have : (k != 0) = true := by simpa using h
    rw [if_neg h, if_neg h, this]
    split <;> rfl
def Regs.rot (q : Regs) (k : Nat) : Regs := ⟨q.r k, if k = 0 then q.r1 else q.r0, if k ≤ 1 then q.r2 else q.r1, if k ≤ 2 then q.r3 else q.r2, q.st⟩
theorem rot0 (q : Regs) : q.rot 0 = q := rfl
theorem rot1 (q : Regs) : q.rot 1 = ⟨q.r1, q.r0, q.r2, q.r3, q.st⟩ := rfl
theorem rot2 (q : Regs) : q.rot 2 = ⟨q.r2, q.r0, q.r1, q.r3, q.st⟩ := rfl
theorem rot3 (q : Regs) : q.rot 3 = ⟨q.r3, q.r0, q.r1, q.r2, q.st⟩ := rfl
section
variable {T : Tab} {M : PM} {c : Cfg}
theorem stC_rot1 (q : Regs) : ((stC T M c q).setIfInBounds 1 (.int .u32 (q.r0 : Nat))).setIfInBounds 0 (.int .u32 (q.r1 : Nat)) = stC T M c ⟨q.r1, q.r0, q.r2, q.r3, q.st⟩ := by
  obtain ⟨a, b, e, f, s⟩ := q
  rw [stC_set1, stC_set0]
theorem stC_rot2 (q : Regs) : (((stC T M c q).setIfInBounds 2 (.int .u32 (q.r1 : Nat))).setIfInBounds 1 (.int .u32 (q.r0 : Nat))).setIfInBounds 0 (.int .u32 (q.r2 : Nat)) = stC T M c ⟨q.r2, q.r0, q.r1, q.r3, q.st⟩ := by
  obtain ⟨a, b, e, f, s⟩ := q
  rw [stC_set2, stC_set1, stC_set0]
theorem stC_rot3 (q : Regs) : ((((stC T M c q).setIfInBounds 3 (.int .u32 (q.r2 : Nat))).setIfInBounds 2 (.int .u32 (q.r1 : Nat))).setIfInBounds 1 (.int .u32 (q.r0 : Nat))).setIfInBounds 0 (.int .u32 (q.r3 : Nat)) = stC T M c ⟨q.r3, q.r0, q.r1, q.r2, q.st⟩ := by
  obtain ⟨a, b, e, f, s⟩ := q
  rw [stC_set3, stC_set2, stC_set1, stC_set0]
end
set_option maxRecDepth 100000 in
set_option maxHeartbeats 8000000 in
theorem readRep_con (G : Gst) (S : ByteSrc G) (T : Tab) (c : Cfg) (hc : c.Ok) (hR : RowsD T c) (M : PM) (hM : PMok M) (q : Regs) (d dd db sb g start size n fr re hd m k : Nat) (all : List Nat) (l : List Ev) (hh : hd < 100000)
    (hst : q.st < 12) (hm : 2 ≤ m ∧ m ≤ 273) (hk : k < 4) (hr : q.r k < 4294967296) :
    Con Tryz.prog G 154 #[.pointer (some ⟨d, 0, none⟩)] [DecC d dd sb g start size false, DictC dd db n fr re hd, DictD db all fr n, cel sb 270 (stC T M c q), ChD T M, DecS g S M (.bit 0 (16 * q.st + c.pos hd) true :: .bit 1 q.st true :: (repEv q.st (c.pos hd) k ++ (lenEv repI m (c.pos hd) ++ l)))] (fun _ : Unit => .tuple #[.iface 344 (.agg #[.int .i64 (q.r k + 1 : Nat), .int .i64 (m : Nat)]), .nilIface])
      (fun _ => [DecC d dd sb g start size false, DictC dd db n fr re hd, DictD db all fr n, cel sb 270 (stC T (evsM (evsM (evM (evM M (.bit 0 (16 * q.st + c.pos hd) true)) (.bit 1 q.st true)) (repEv q.st (c.pos hd) k)) (lenEv repI m (c.pos hd))) c { q.rot k with st := matSt q.st 8 11 }), ChD T (evsM (evsM (evM (evM M (.bit 0 (16 * q.st + c.pos hd) true)) (.bit 1 q.st true)) (repEv q.st (c.pos hd) k)) (lenEv repI m (c.pos hd))), DecS g S (evsM (evsM (evM (evM M (.bit 0 (16 * q.st + c.pos hd) true)) (.bit 1 q.st true)) (repEv q.st (c.pos hd) k)) (lenEv repI m (c.pos hd))) l]) := by
  have tf : false.toNat = 0 := rfl
  have tt : true.toNat = 1 := rfl
  have hpb : 2 ^ c.pb ≤ 2 ^ 4 := Nat.pow_le_pow_right (by decide) hc.p
  have hpos : c.pos hd < 16 := by
    have := Nat.mod_lt hd (show 0 < 2 ^ c.pb from Nat.pow_pos (by decide))
    unfold Cfg.pos; omega
  obtain ⟨pos, hposd⟩ : ∃ x, c.pos hd = x := ⟨_, rfl⟩
  rw [hposd] at hpos ⊢
  have p0 : (0, 4, 192) ∈ places := by simp [places]
  have p1 : (1, 388, 12) ∈ places := by simp [places]
  have p2 : (2, 400, 12) ∈ places := by simp [places]
  have p3 : (3, 412, 12) ∈ places := by simp [places]
  have p4 : (4, 424, 12) ∈ places := by simp [places]
  have p5 : (5, 196, 192) ∈ places := by simp [places]
  have pr : (repI.c, 505, 2) ∈ places := by simp [places, repI]
  rw [repEv_eq]
  simp only [List.cons_append, evsM_cons]
  refine Con.intro Tryz.func154 rfl (by kernel_rfl) Tryz.ntmps154 (Nat.le_of_ble_eq_true rfl) ?_
  intro F
  show JC _ _ _ _ _ _ [(0, _)] _ [_, _, _, _, _, _, _]
  refine sR ?_
  refine oC ?_
  refine oC ?_
  refine nC (JC.seq ?_)
  refine JC.regionM [(0, true), (1, true), (2, true), (3, true), (4, true), (5, true), (6, true), (7, true), (8, true), (9, true), (10, true), (11, false), (12, true), (13, true), (14, true), (15, true), (16, true), (17, true), (18, true)] mixed (by kernel_rfl) ?_
  refine JM.py ao ⟨fun _ => Py.move xe⟩ ?_
  refine JM.py ao ⟨fun _ => Py.nil xe⟩ ?_
  refine JM.py ao ⟨fun _ => Py.fld fld237_1 xe xoff⟩ ?_
  refine JM.ld ao scal204 xe xpick xrow ?_
  refine JM.py ao ⟨fun _ => Py.move xe⟩ ?_
  refine JM.py ao ⟨fun _ => Py.nil xe⟩ ?_
  refine JM.py ao ⟨fun _ => Py.fld fld237_0 xe xoff⟩ ?_
  refine JM.ld ao scal187 xe xpick xrow ?_
  refine JM.py ao ⟨fun _ => Py.nil xe⟩ ?_
  refine JM.py ao ⟨fun _ => Py.fld fld223_1 xe xoff⟩ ?_
  refine JM.ld ao scal2 xe xpick xrow ?_
  refine JM.eff ao ?_
  refine JO.call (Evs.cons xe (Evs.cons xe Evs.nil)) (states_con G T M c hc q hst sb hd (by omega)) xpkE ?_
  rintro _
  show JO _ _ _ _ _ _ _ ((26, _) :: _) _ (_ :: _ :: _)
  rw [hposd]
  refine JO.nil ?_
  refine JX.mix (Kept.drop (Forced.step (by kernel_rfl)) (Kept.drop (Forced.trans (q := 8) (Forced.step (by kernel_rfl)) (Forced.trans (q := 9) (Forced.step (by kernel_rfl)) (Forced.trans (q := 10) (Forced.step (by kernel_rfl)) (Forced.step (by kernel_rfl))))) (Kept.drop (Forced.step (by kernel_rfl)) Kept.nil))) ?_
  refine JM.py ao ⟨fun _ => Py.move xe⟩ ?_
  refine JM.py ao ⟨fun _ => Py.extrI xe xix⟩ ?_
  refine JM.py ao ⟨fun _ => Py.extrI xe xix⟩ ?_
  refine JM.py ao ⟨fun _ => Py.extrI xe xix⟩ ?_
  refine JM.py ao ⟨fun _ => Py.assign xe⟩ ?_
  refine JM.py ao ⟨fun _ => Py.assign xe⟩ ?_
  refine JM.py ao ⟨fun _ => Py.assign xe⟩ ?_
  refine JM.nil (JX.code (JC.seq ?_))
  refine JC.regionM [(0, true), (1, true), (2, true), (3, true), (4, true), (5, true), (6, true), (7, true), (8, true), (9, true), (10, true), (11, true), (12, false), (13, true), (14, true), (15, true), (16, true), (17, true)] mixed (by kernel_rfl) ?_
  refine JM.py ao ⟨fun _ => Py.move xe⟩ ?_
  refine JM.py ao ⟨fun _ => Py.nil xe⟩ ?_
  refine JM.py ao ⟨fun _ => Py.fld fld237_1 xe xoff⟩ ?_
  refine JM.ld ao scal204 xe xpick xrow ?_
  refine JM.py ao ⟨fun _ => Py.move xe⟩ ?_
  refine JM.py ao ⟨fun _ => Py.nil xe⟩ ?_
  refine JM.py ao ⟨fun _ => Py.fld fld270_1 xe xoff⟩ ?_
  refine JM.py ao ⟨fun _ => Py.idxA Tryz.underlying251 siz250 xe xe (by omega) xidx xmult⟩ ?_
  refine JM.py ao ⟨fun _ => Py.move xe⟩ ?_
  refine JM.py ao ⟨fun _ => Py.nil xe⟩ ?_
  refine JM.py ao ⟨fun _ => Py.fld fld237_2 xe xoff⟩ ?_
  refine JM.ld ao scal235 xe xpick xrow ?_
  refine JM.eff ao ?_
  refine JO.call (Evs.cons xe (Evs.cons xe Evs.nil)) (dbitS G g S hM _ c q sb p0 (ix := 16 * q.st + pos) (by omega) (hR.no _ _ _ p0) true) xpkE ?_
  rintro _
  show JO _ _ _ _ _ _ _ ((43, _) :: _) _ (_ :: _ :: _ :: _ :: _)
  have hM1 := evM_ok hM (.bit 0 (16 * q.st + pos) true)
  refine JO.nil ?_
  refine JX.mix (Kept.drop (Forced.step (by kernel_rfl)) (Kept.drop (Forced.trans (q := 5) (Forced.step (by kernel_rfl)) (Forced.trans (q := 6) (Forced.step (by kernel_rfl)) (Forced.trans (q := 7) (Forced.step (by kernel_rfl)) (Forced.step (by kernel_rfl))))) Kept.nil)) ?_
  refine JM.py ao ⟨fun _ => Py.move xe⟩ ?_
  refine JM.py ao ⟨fun _ => Py.extrI xe xix⟩ ?_
  refine JM.py ao ⟨fun _ => Py.extrI xe xix⟩ ?_
  refine JM.py ao ⟨fun _ => Py.assign xe⟩ ?_
  refine JM.py ao ⟨fun _ => Py.assign xe⟩ ?_
  refine JM.nil (JX.code (JC.seq (sR ?_)))
  refine oM ?_
  first | refine JO.py (Py.neqNil Tryz.underlying70 xe rfl) ?_ | refine JO.py (Py.neqHeld Tryz.underlying70 xe rfl) ?_
  refine nC ?_
  refine cF ?_
  refine JC.skip (JX.code (JC.seq (sR ?_)))
  refine oM ?_
  first | refine oD (Py.eql xe ev_const) ?_ | refine oU (Py.eql xe ev_const) ?_ | refine JO.py (Py.eql xe ev_const) ?_
  refine nC ?_
  refine cF ?_
  refine JC.skip (JX.code (JC.seq ?_))
  refine JC.regionM [(0, true), (1, true), (2, true), (3, true), (4, true), (5, true), (6, true), (7, true), (8, true), (9, true), (10, true), (11, true), (12, false), (13, true), (14, true), (15, true), (16, true), (17, true)] mixed (by kernel_rfl) ?_
  refine JM.py ao ⟨fun _ => Py.move xe⟩ ?_
  refine JM.py ao ⟨fun _ => Py.nil xe⟩ ?_
  refine JM.py ao ⟨fun _ => Py.fld fld237_1 xe xoff⟩ ?_
  refine JM.ld ao scal204 xe xpick xrow ?_
  refine JM.py ao ⟨fun _ => Py.move xe⟩ ?_
  refine JM.py ao ⟨fun _ => Py.nil xe⟩ ?_
  refine JM.py ao ⟨fun _ => Py.fld fld270_3 xe xoff⟩ ?_
  refine JM.py ao ⟨fun _ => Py.idxA Tryz.underlying252 siz250 xe xe (by omega) xidx xmult⟩ ?_
  refine JM.py ao ⟨fun _ => Py.move xe⟩ ?_
  refine JM.py ao ⟨fun _ => Py.nil xe⟩ ?_
  refine JM.py ao ⟨fun _ => Py.fld fld237_2 xe xoff⟩ ?_
  refine JM.ld ao scal235 xe xpick xrow ?_
  refine JM.eff ao ?_
  refine JO.call (Evs.cons xe (Evs.cons xe Evs.nil)) (dbitS G g S hM1 _ c q sb p1 (ix := q.st) (by omega) (hR.no _ _ _ p1) true) xpkE ?_
  rintro _
  show JO _ _ _ _ _ _ _ ((78, _) :: _) _ (_ :: _ :: _ :: _ :: _)
  have hM2 := evM_ok hM1 (.bit 1 q.st true)
  refine JO.nil ?_
  refine JX.mix (Kept.drop (Forced.step (by kernel_rfl)) (Kept.drop (Forced.trans (q := 5) (Forced.step (by kernel_rfl)) (Forced.trans (q := 6) (Forced.step (by kernel_rfl)) (Forced.trans (q := 7) (Forced.step (by kernel_rfl)) (Forced.step (by kernel_rfl))))) Kept.nil)) ?_
  refine JM.py ao ⟨fun _ => Py.move xe⟩ ?_
  refine JM.py ao ⟨fun _ => Py.extrI xe xix⟩ ?_
  refine JM.py ao ⟨fun _ => Py.extrI xe xix⟩ ?_
  refine JM.py ao ⟨fun _ => Py.assign xe⟩ ?_
  refine JM.py ao ⟨fun _ => Py.assign xe⟩ ?_
  refine JM.nil (JX.code (JC.seq (sR ?_)))
  refine oM ?_
  first | refine JO.py (Py.neqNil Tryz.underlying70 xe rfl) ?_ | refine JO.py (Py.neqHeld Tryz.underlying70 xe rfl) ?_
  refine nC ?_
  refine cF ?_
  refine JC.skip (JX.code (JC.seq (sR ?_)))
  refine oM ?_
  first | refine oD (Py.eql xe ev_const) ?_ | refine oU (Py.eql xe ev_const) ?_ | refine JO.py (Py.eql xe ev_const) ?_
  refine nC ?_
  refine cF ?_
  refine JC.skip (JX.code (JC.seq ?_))
  refine JC.regionM [(0, true), (1, true), (2, true), (3, true), (4, true), (5, true), (6, true), (7, true), (8, true), (9, true), (10, true), (11, true), (12, false), (13, true), (14, true), (15, true), (16, true), (17, true)] mixed (by kernel_rfl) ?_
  refine JM.py ao ⟨fun _ => Py.move xe⟩ ?_
  refine JM.py ao ⟨fun _ => Py.nil xe⟩ ?_
  refine JM.py ao ⟨fun _ => Py.fld fld237_1 xe xoff⟩ ?_
  refine JM.ld ao scal204 xe xpick xrow ?_
  refine JM.py ao ⟨fun _ => Py.move xe⟩ ?_
  refine JM.py ao ⟨fun _ => Py.nil xe⟩ ?_
  refine JM.py ao ⟨fun _ => Py.fld fld270_4 xe xoff⟩ ?_
  refine JM.py ao ⟨fun _ => Py.idxA Tryz.underlying252 siz250 xe xe (by omega) xidx xmult⟩ ?_
  refine JM.py ao ⟨fun _ => Py.move xe⟩ ?_
  refine JM.py ao ⟨fun _ => Py.nil xe⟩ ?_
  refine JM.py ao ⟨fun _ => Py.fld fld237_2 xe xoff⟩ ?_
  refine JM.ld ao scal235 xe xpick xrow ?_
  refine JM.eff ao ?_
  refine JO.call (Evs.cons xe (Evs.cons xe Evs.nil)) (dbitS G g S hM2 _ c q sb p2 (ix := q.st) (by omega) (hR.no _ _ _ p2) (k != 0)) xpkE ?_
  rintro _
  show JO _ _ _ _ _ _ _ ((221, _) :: _) _ (_ :: _ :: _ :: _ :: _)
  have hM3 := evM_ok hM2 (.bit 2 q.st (k != 0))
  refine JO.nil ?_
  refine JX.mix (Kept.drop (Forced.step (by kernel_rfl)) (Kept.drop (Forced.trans (q := 5) (Forced.step (by kernel_rfl)) (Forced.trans (q := 6) (Forced.step (by kernel_rfl)) (Forced.trans (q := 7) (Forced.step (by kernel_rfl)) (Forced.step (by kernel_rfl))))) Kept.nil)) ?_
  refine JM.py ao ⟨fun _ => Py.move xe⟩ ?_
  refine JM.py ao ⟨fun _ => Py.extrI xe xix⟩ ?_
  refine JM.py ao ⟨fun _ => Py.extrI xe xix⟩ ?_
  refine JM.py ao ⟨fun _ => Py.assign xe⟩ ?_
  refine JM.py ao ⟨fun _ => Py.assign xe⟩ ?_
  refine JM.nil (JX.code (JC.seq (sR ?_)))
  refine oM ?_
  first | refine JO.py (Py.neqNil Tryz.underlying70 xe rfl) ?_ | refine JO.py (Py.neqHeld Tryz.underlying70 xe rfl) ?_
  refine nC ?_
  refine cF ?_
  refine JC.skip (JX.code (JC.seq ?_))
  refine JC.renD xpick xpick xpick ?_
  intro M3 hM3d
  rw [← hM3d] at hM3
  have r0 := stC_r0 (T := T) (M := M3) (c := c) (q := q)
  refine JC.region ?_
  refine oM ?_
  refine JO.py (Py.nil xe) ?_
  refine JO.py (Py.fld fld237_1 xe xoff) ?_
  refine JO.py (Py.load scal204 xe xpick xrow) ?_
  refine JO.py (Py.nil xe) ?_
  refine JO.py (Py.fld fld270_0 xe xoff) ?_
  refine JO.py (Py.idxA Tryz.underlying249 siz45 xe ev_const (by omega) xidx xmult) ?_
  refine JO.py (Py.load scal45 xe xpick xrow) ?_
  refine oA ?_
  refine nC (JC.seq (sR ?_))
  refine oM ?_
  first | refine oD (Py.eql xe ev_const) ?_ | refine oU (Py.eql xe ev_const) ?_ | refine JO.py (Py.eql xe ev_const) ?_
  refine nC ?_
  refine JC.mid (ι := Unit) (fun _ => [(0, .pointer (some ⟨d, 0, none⟩)), (6, .int .u32 pos), (12, .int .u32 (q.r k : Nat))]) (fun _ => [DecC d dd sb g start size false, DictC dd db n fr re hd, DictD db all fr n, cel sb 270 (stC T (evsM M3 (repT q.st pos k)) c (q.rot k)), ChD T (evsM M3 (repT q.st pos k)), DecS g S (evsM M3 (repT q.st pos k)) (lenEv repI m pos ++ l), F]) ?_ ?_
  · skip
    have hk' : k = 0 ∨ k = 1 ∨ k = 2 ∨ k = 3 := by omega
    rcases hk' with rfl | rfl | rfl | rfl
    · skip
      have nb : (0 != 0).toNat = 0 := rfl
      refine JC.as (A := DecS g S M3 (repT q.st pos 0 ++ (lenEv repI m pos ++ l))) (A' := DecS g S M3 (.bit 5 (16 * q.st + pos) true :: (lenEv repI m pos ++ l))) xpick (rfl) ?_
      refine cT ?_
      refine JC.seq ?_
      refine JC.regionM [(0, true), (1, true), (2, true), (3, true), (4, true), (5, true), (6, true), (7, true), (8, true), (9, true), (10, true), (11, true), (12, false), (13, true), (14, true), (15, true), (16, true), (17, true)] mixed (by kernel_rfl) ?_
      refine JM.py ao ⟨fun _ => Py.move xe⟩ ?_
      refine JM.py ao ⟨fun _ => Py.nil xe⟩ ?_
      refine JM.py ao ⟨fun _ => Py.fld fld237_1 xe xoff⟩ ?_
      refine JM.ld ao scal204 xe xpick xrow ?_
      refine JM.py ao ⟨fun _ => Py.move xe⟩ ?_
      refine JM.py ao ⟨fun _ => Py.nil xe⟩ ?_
      refine JM.py ao ⟨fun _ => Py.fld fld270_2 xe xoff⟩ ?_
      refine JM.py ao ⟨fun _ => Py.idxA Tryz.underlying251 siz250 xe xe (by omega) xidx xmult⟩ ?_
      refine JM.py ao ⟨fun _ => Py.move xe⟩ ?_
      refine JM.py ao ⟨fun _ => Py.nil xe⟩ ?_
      refine JM.py ao ⟨fun _ => Py.fld fld237_2 xe xoff⟩ ?_
      refine JM.ld ao scal235 xe xpick xrow ?_
      refine JM.eff ao ?_
      refine JO.call (Evs.cons xe (Evs.cons xe Evs.nil)) (dbitS G g S hM3 _ c q sb p5 (ix := 16 * q.st + pos) (by omega) (hR.no _ _ _ p5) true) xpkE ?_
      rintro _
      show JO _ _ _ _ _ _ _ ((250, _) :: _) _ (_ :: _ :: _ :: _ :: _)
      refine JO.nil ?_
      refine JX.mix (Kept.drop (Forced.step (by kernel_rfl)) (Kept.drop (Forced.trans (q := 5) (Forced.step (by kernel_rfl)) (Forced.trans (q := 6) (Forced.step (by kernel_rfl)) (Forced.trans (q := 7) (Forced.step (by kernel_rfl)) (Forced.step (by kernel_rfl))))) Kept.nil)) ?_
      refine JM.py ao ⟨fun _ => Py.move xe⟩ ?_
      refine JM.py ao ⟨fun _ => Py.extrI xe xix⟩ ?_
      refine JM.py ao ⟨fun _ => Py.extrI xe xix⟩ ?_
      refine JM.py ao ⟨fun _ => Py.assign xe⟩ ?_
      refine JM.py ao ⟨fun _ => Py.assign xe⟩ ?_
      refine JM.nil (JX.code (JC.seq (sR ?_)))
      refine oM ?_
      first | refine JO.py (Py.neqNil Tryz.underlying70 xe rfl) ?_ | refine JO.py (Py.neqHeld Tryz.underlying70 xe rfl) ?_
      refine nC ?_
      refine cF ?_
      refine JC.skip (JX.code (sR ?_))
      refine oM ?_
      first | refine oD (Py.eql xe ev_const) ?_ | refine oU (Py.eql xe ev_const) ?_ | refine JO.py (Py.eql xe ev_const) ?_
      refine nC ?_
      refine cF ?_
      refine JC.skip ?_
      refine JX.cut () xag (by rw [rot0, show repT q.st pos 0 = [.bit 5 (16 * q.st + pos) true] from rfl]; exact xpkE) rfl
    · skip
      have nb : (1 != 0).toNat = 1 := rfl
      refine JC.as (A := DecS g S M3 (repT q.st pos 1 ++ (lenEv repI m pos ++ l))) (A' := DecS g S M3 (.bit 3 q.st false :: (lenEv repI m pos ++ l))) xpick (rfl) ?_
      refine cF ?_
      refine JC.seq ?_
      refine JC.regionM [(0, true), (1, true), (2, true), (3, true), (4, true), (5, true), (6, true), (7, true), (8, true), (9, true), (10, true), (11, true), (12, false), (13, true), (14, true), (15, true), (16, true), (17, true)] mixed (by kernel_rfl) ?_
      refine JM.py ao ⟨fun _ => Py.move xe⟩ ?_
      refine JM.py ao ⟨fun _ => Py.nil xe⟩ ?_
      refine JM.py ao ⟨fun _ => Py.fld fld237_1 xe xoff⟩ ?_
      refine JM.ld ao scal204 xe xpick xrow ?_
      refine JM.py ao ⟨fun _ => Py.move xe⟩ ?_
      refine JM.py ao ⟨fun _ => Py.nil xe⟩ ?_
      refine JM.py ao ⟨fun _ => Py.fld fld270_5 xe xoff⟩ ?_
      refine JM.py ao ⟨fun _ => Py.idxA Tryz.underlying252 siz250 xe xe (by omega) xidx xmult⟩ ?_
      refine JM.py ao ⟨fun _ => Py.move xe⟩ ?_
      refine JM.py ao ⟨fun _ => Py.nil xe⟩ ?_
      refine JM.py ao ⟨fun _ => Py.fld fld237_2 xe xoff⟩ ?_
      refine JM.ld ao scal235 xe xpick xrow ?_
      refine JM.eff ao ?_
      refine JO.call (Evs.cons xe (Evs.cons xe Evs.nil)) (dbitS G g S hM3 _ c q sb p3 (ix := q.st) (by omega) (hR.no _ _ _ p3) false) xpkE ?_
      rintro _
      show JO _ _ _ _ _ _ _ ((282, _) :: _) _ (_ :: _ :: _ :: _ :: _)
      refine JO.nil ?_
      refine JX.mix (Kept.drop (Forced.step (by kernel_rfl)) (Kept.drop (Forced.trans (q := 5) (Forced.step (by kernel_rfl)) (Forced.trans (q := 6) (Forced.step (by kernel_rfl)) (Forced.trans (q := 7) (Forced.step (by kernel_rfl)) (Forced.step (by kernel_rfl))))) Kept.nil)) ?_
      refine JM.py ao ⟨fun _ => Py.move xe⟩ ?_
      refine JM.py ao ⟨fun _ => Py.extrI xe xix⟩ ?_
      refine JM.py ao ⟨fun _ => Py.extrI xe xix⟩ ?_
      refine JM.py ao ⟨fun _ => Py.assign xe⟩ ?_
      refine JM.py ao ⟨fun _ => Py.assign xe⟩ ?_
      refine JM.nil (JX.code (JC.seq (sR ?_)))
      refine oM ?_
      first | refine JO.py (Py.neqNil Tryz.underlying70 xe rfl) ?_ | refine JO.py (Py.neqHeld Tryz.underlying70 xe rfl) ?_
      refine nC ?_
      refine cF ?_
      refine JC.skip (JX.code (JC.seq (sR ?_)))
      refine oM ?_
      first | refine oD (Py.eql xe ev_const) ?_ | refine oU (Py.eql xe ev_const) ?_ | refine JO.py (Py.eql xe ev_const) ?_
      refine nC ?_
      refine cT ?_
      refine JC.renD xpick xpick xpick ?_
      intro M4 hM4d
      have y0 := stC_r0 (T := T) (M := M4) (c := c) (q := q)
      have y1 := stC_r1 (T := T) (M := M4) (c := c) (q := q)
      have z1 := stC_lt (T := T) (M := M4) (c := c) (q := q) (i := 1) (by decide)
      have z0 := set_lt (k := 1) (w := .int .u32 (q.r0 : Nat)) (stC_lt (T := T) (M := M4) (c := c) (q := q) (i := 0) (by decide))
      refine JC.region ?_
      refine oM ?_
      refine JO.py (Py.nil xe) ?_
      refine JO.py (Py.fld fld237_1 xe xoff) ?_
      refine JO.py (Py.load scal204 xe xpick xrow) ?_
      refine JO.py (Py.nil xe) ?_
      refine JO.py (Py.fld fld270_0 xe xoff) ?_
      refine JO.py (Py.idxA Tryz.underlying249 siz45 xe ev_const (by omega) xidx xmult) ?_
      refine JO.py (Py.load scal45 xe xpick xrow) ?_
      refine oA ?_
      refine nC (JC.seq ?_)
      refine JC.regionM [(0, true), (1, true), (2, true), (3, true), (4, true), (5, true), (6, true), (7, true), (8, true), (9, true), (10, true), (11, true), (12, true), (13, true), (14, true), (15, false)] mixed (by kernel_rfl) ?_
      refine JM.py ao ⟨fun _ => Py.move xe⟩ ?_
      refine JM.py ao ⟨fun _ => Py.nil xe⟩ ?_
      refine JM.py ao ⟨fun _ => Py.fld fld237_1 xe xoff⟩ ?_
      refine JM.ld ao scal204 xe xpick xrow ?_
      refine JM.py ao ⟨fun _ => Py.move xe⟩ ?_
      refine JM.py ao ⟨fun _ => Py.nil xe⟩ ?_
      refine JM.py ao ⟨fun _ => Py.fld fld237_1 xe xoff⟩ ?_
      refine JM.ld ao scal204 xe xpick xrow ?_
      refine JM.py ao ⟨fun _ => Py.nil xe⟩ ?_
      refine JM.py ao ⟨fun _ => Py.fld fld270_0 xe xoff⟩ ?_
      refine JM.py ao ⟨fun _ => Py.idxA Tryz.underlying249 siz45 xe ev_const (by omega) xidx xmult⟩ ?_
      refine JM.ld ao scal45 xe xpick xrow ?_
      refine JM.py ao ⟨fun _ => Py.nil xe⟩ ?_
      refine JM.py ao ⟨fun _ => Py.fld fld270_0 xe xoff⟩ ?_
      refine JM.py ao ⟨fun _ => Py.idxA Tryz.underlying249 siz45 xe ev_const (by omega) xidx xmult⟩ ?_
      refine JM.eff ao ?_
      refine JO.store siz45 xe xe (by first | rfl | assumption) xpick xsize xnorm ?_
      refine JO.nil ?_
      refine JX.mix (Kept.drop (Forced.step (by kernel_rfl)) (Kept.drop (Forced.step (by kernel_rfl)) (Kept.drop (Forced.step (by kernel_rfl)) Kept.nil))) ?_
      refine JM.nil (JX.code (JC.region ?_))
      refine oM ?_
      refine JO.py (Py.nil xe) ?_
      refine JO.py (Py.fld fld237_1 xe xoff) ?_
      refine JO.py (Py.load scal204 xe xpick xrow) ?_
      refine oM ?_
      refine JO.py (Py.nil xe) ?_
      refine JO.py (Py.fld fld270_0 xe xoff) ?_
      refine JO.py (Py.idxA Tryz.underlying249 siz45 xe ev_const (by omega) xidx xmult) ?_
      refine JO.store siz45 xe xe (by first | rfl | assumption) xpick xsize xnorm ?_
      refine JO.nil ?_
      refine JX.as (A := cel sb 270 _) (A' := cel sb 270 (stC T M4 c ⟨q.r1, q.r0, q.r2, q.r3, q.st⟩)) xpick (cel_eq (by exact stC_rot1 q)) ?_
      subst hM4d
      refine JX.cut () xag (by rw [rot1, show repT q.st pos 1 = [.bit 3 q.st false] from rfl]; exact xpkE) rfl
    · skip
      have nb : (2 != 0).toNat = 1 := rfl
      refine JC.as (A := DecS g S M3 (repT q.st pos 2 ++ (lenEv repI m pos ++ l))) (A' := DecS g S M3 (.bit 3 q.st true :: .bit 4 q.st false :: (lenEv repI m pos ++ l))) xpick (rfl) ?_
      refine cF ?_
      refine JC.seq ?_
      refine JC.regionM [(0, true), (1, true), (2, true), (3, true), (4, true), (5, true), (6, true), (7, true), (8, true), (9, true), (10, true), (11, true), (12, false), (13, true), (14, true), (15, true), (16, true), (17, true)] mixed (by kernel_rfl) ?_
      refine JM.py ao ⟨fun _ => Py.move xe⟩ ?_
      refine JM.py ao ⟨fun _ => Py.nil xe⟩ ?_
      refine JM.py ao ⟨fun _ => Py.fld fld237_1 xe xoff⟩ ?_
      refine JM.ld ao scal204 xe xpick xrow ?_
      refine JM.py ao ⟨fun _ => Py.move xe⟩ ?_
      refine JM.py ao ⟨fun _ => Py.nil xe⟩ ?_
      refine JM.py ao ⟨fun _ => Py.fld fld270_5 xe xoff⟩ ?_
      refine JM.py ao ⟨fun _ => Py.idxA Tryz.underlying252 siz250 xe xe (by omega) xidx xmult⟩ ?_
      refine JM.py ao ⟨fun _ => Py.move xe⟩ ?_
      refine JM.py ao ⟨fun _ => Py.nil xe⟩ ?_
      refine JM.py ao ⟨fun _ => Py.fld fld237_2 xe xoff⟩ ?_
      refine JM.ld ao scal235 xe xpick xrow ?_
      refine JM.eff ao ?_
      refine JO.call (Evs.cons xe (Evs.cons xe Evs.nil)) (dbitS G g S hM3 _ c q sb p3 (ix := q.st) (by omega) (hR.no _ _ _ p3) true) xpkE ?_
      rintro _
      show JO _ _ _ _ _ _ _ ((282, _) :: _) _ (_ :: _ :: _ :: _ :: _)
      refine JO.nil ?_
      refine JX.mix (Kept.drop (Forced.step (by kernel_rfl)) (Kept.drop (Forced.trans (q := 5) (Forced.step (by kernel_rfl)) (Forced.trans (q := 6) (Forced.step (by kernel_rfl)) (Forced.trans (q := 7) (Forced.step (by kernel_rfl)) (Forced.step (by kernel_rfl))))) Kept.nil)) ?_
      refine JM.py ao ⟨fun _ => Py.move xe⟩ ?_
      refine JM.py ao ⟨fun _ => Py.extrI xe xix⟩ ?_
      refine JM.py ao ⟨fun _ => Py.extrI xe xix⟩ ?_
      refine JM.py ao ⟨fun _ => Py.assign xe⟩ ?_
      refine JM.py ao ⟨fun _ => Py.assign xe⟩ ?_
      refine JM.nil (JX.code (JC.seq (sR ?_)))
      refine oM ?_
      first | refine JO.py (Py.neqNil Tryz.underlying70 xe rfl) ?_ | refine JO.py (Py.neqHeld Tryz.underlying70 xe rfl) ?_
      refine nC ?_
      refine cF ?_
      refine JC.skip (JX.code (JC.seq (sR ?_)))
      refine oM ?_
      first | refine oD (Py.eql xe ev_const) ?_ | refine oU (Py.eql xe ev_const) ?_ | refine JO.py (Py.eql xe ev_const) ?_
      refine nC ?_
      refine cF ?_
      refine JC.seq ?_
      refine JC.regionM [(0, true), (1, true), (2, true), (3, true), (4, true), (5, true), (6, true), (7, true), (8, true), (9, true), (10, true), (11, true), (12, false), (13, true), (14, true), (15, true), (16, true), (17, true)] mixed (by kernel_rfl) ?_
      refine JM.py ao ⟨fun _ => Py.move xe⟩ ?_
      refine JM.py ao ⟨fun _ => Py.nil xe⟩ ?_
      refine JM.py ao ⟨fun _ => Py.fld fld237_1 xe xoff⟩ ?_
      refine JM.ld ao scal204 xe xpick xrow ?_
      refine JM.py ao ⟨fun _ => Py.move xe⟩ ?_
      refine JM.py ao ⟨fun _ => Py.nil xe⟩ ?_
      refine JM.py ao ⟨fun _ => Py.fld fld270_6 xe xoff⟩ ?_
      refine JM.py ao ⟨fun _ => Py.idxA Tryz.underlying252 siz250 xe xe (by omega) xidx xmult⟩ ?_
      refine JM.py ao ⟨fun _ => Py.move xe⟩ ?_
      refine JM.py ao ⟨fun _ => Py.nil xe⟩ ?_
      refine JM.py ao ⟨fun _ => Py.fld fld237_2 xe xoff⟩ ?_
      refine JM.ld ao scal235 xe xpick xrow ?_
      refine JM.eff ao ?_
      refine JO.call (Evs.cons xe (Evs.cons xe Evs.nil)) (dbitS G g S (evM_ok hM3 _) _ c q sb p4 (ix := q.st) (by omega) (hR.no _ _ _ p4) false) xpkE ?_
      rintro _
      show JO _ _ _ _ _ _ _ ((311, _) :: _) _ (_ :: _ :: _ :: _ :: _)
      refine JO.nil ?_
      refine JX.mix (Kept.drop (Forced.step (by kernel_rfl)) (Kept.drop (Forced.trans (q := 5) (Forced.step (by kernel_rfl)) (Forced.trans (q := 6) (Forced.step (by kernel_rfl)) (Forced.trans (q := 7) (Forced.step (by kernel_rfl)) (Forced.step (by kernel_rfl))))) Kept.nil)) ?_
      refine JM.py ao ⟨fun _ => Py.move xe⟩ ?_
      refine JM.py ao ⟨fun _ => Py.extrI xe xix⟩ ?_
      refine JM.py ao ⟨fun _ => Py.extrI xe xix⟩ ?_
      refine JM.py ao ⟨fun _ => Py.assign xe⟩ ?_
      refine JM.py ao ⟨fun _ => Py.assign xe⟩ ?_
      refine JM.nil (JX.code (JC.seq (sR ?_)))
      refine oM ?_
      first | refine JO.py (Py.neqNil Tryz.underlying70 xe rfl) ?_ | refine JO.py (Py.neqHeld Tryz.underlying70 xe rfl) ?_
      refine nC ?_
      refine cF ?_
      refine JC.skip (JX.code (JC.seq (sR ?_)))
      refine oM ?_
      first | refine oD (Py.eql xe ev_const) ?_ | refine oU (Py.eql xe ev_const) ?_ | refine JO.py (Py.eql xe ev_const) ?_
      refine nC ?_
      refine cT ?_
      refine JC.renD xpick xpick xpick ?_
      intro M4 hM4d
      have y0 := stC_r0 (T := T) (M := M4) (c := c) (q := q)
      have y1 := stC_r1 (T := T) (M := M4) (c := c) (q := q)
      have y2 := stC_r2 (T := T) (M := M4) (c := c) (q := q)
      have z2 := stC_lt (T := T) (M := M4) (c := c) (q := q) (i := 2) (by decide)
      have z1 := set_lt (k := 2) (w := .int .u32 (q.r1 : Nat)) (stC_lt (T := T) (M := M4) (c := c) (q := q) (i := 1) (by decide))
      have z0 := set_lt (k := 1) (w := .int .u32 (q.r0 : Nat)) (set_lt (k := 2) (w := .int .u32 (q.r1 : Nat)) (stC_lt (T := T) (M := M4) (c := c) (q := q) (i := 0) (by decide)))
      have s0 := set_ne (k := 2) (w := .int .u32 (q.r1 : Nat)) y0 (by decide)
      refine JC.region ?_
      refine oM ?_
      refine JO.py (Py.nil xe) ?_
      refine JO.py (Py.fld fld237_1 xe xoff) ?_
      refine JO.py (Py.load scal204 xe xpick xrow) ?_
      refine JO.py (Py.nil xe) ?_
      refine JO.py (Py.fld fld270_0 xe xoff) ?_
      refine JO.py (Py.idxA Tryz.underlying249 siz45 xe ev_const (by omega) xidx xmult) ?_
      refine JO.py (Py.load scal45 xe xpick xrow) ?_
      refine oA ?_
      refine nC ?_
      refine JC.regionM [(0, true), (1, true), (2, true), (3, true), (4, true), (5, true), (6, true), (7, true), (8, true), (9, true), (10, true), (11, true), (12, true), (13, true), (14, true), (15, false)] mixed (by kernel_rfl) ?_
      refine JM.py ao ⟨fun _ => Py.move xe⟩ ?_
      refine JM.py ao ⟨fun _ => Py.nil xe⟩ ?_
      refine JM.py ao ⟨fun _ => Py.fld fld237_1 xe xoff⟩ ?_
      refine JM.ld ao scal204 xe xpick xrow ?_
      refine JM.py ao ⟨fun _ => Py.move xe⟩ ?_
      refine JM.py ao ⟨fun _ => Py.nil xe⟩ ?_
      refine JM.py ao ⟨fun _ => Py.fld fld237_1 xe xoff⟩ ?_
      refine JM.ld ao scal204 xe xpick xrow ?_
      refine JM.py ao ⟨fun _ => Py.nil xe⟩ ?_
      refine JM.py ao ⟨fun _ => Py.fld fld270_0 xe xoff⟩ ?_
      refine JM.py ao ⟨fun _ => Py.idxA Tryz.underlying249 siz45 xe ev_const (by omega) xidx xmult⟩ ?_
      refine JM.ld ao scal45 xe xpick xrow ?_
      refine JM.py ao ⟨fun _ => Py.nil xe⟩ ?_
      refine JM.py ao ⟨fun _ => Py.fld fld270_0 xe xoff⟩ ?_
      refine JM.py ao ⟨fun _ => Py.idxA Tryz.underlying249 siz45 xe ev_const (by omega) xidx xmult⟩ ?_
      refine JM.eff ao ?_
      refine JO.store siz45 xe xe (by first | rfl | assumption) xpick xsize xnorm ?_
      refine JO.nil ?_
      refine JX.mix (Kept.drop (Forced.step (by kernel_rfl)) (Kept.drop (Forced.step (by kernel_rfl)) (Kept.drop (Forced.step (by kernel_rfl)) Kept.nil))) ?_
      refine JM.nil (JX.code (JC.seq ?_))
      refine JC.regionM [(0, true), (1, true), (2, true), (3, true), (4, true), (5, true), (6, true), (7, true), (8, true), (9, true), (10, true), (11, true), (12, true), (13, true), (14, true), (15, false)] mixed (by kernel_rfl) ?_
      refine JM.py ao ⟨fun _ => Py.move xe⟩ ?_
      refine JM.py ao ⟨fun _ => Py.nil xe⟩ ?_
      refine JM.py ao ⟨fun _ => Py.fld fld237_1 xe xoff⟩ ?_
      refine JM.ld ao scal204 xe xpick xrow ?_
      refine JM.py ao ⟨fun _ => Py.move xe⟩ ?_
      refine JM.py ao ⟨fun _ => Py.nil xe⟩ ?_
      refine JM.py ao ⟨fun _ => Py.fld fld237_1 xe xoff⟩ ?_
      refine JM.ld ao scal204 xe xpick xrow ?_
      refine JM.py ao ⟨fun _ => Py.nil xe⟩ ?_
      refine JM.py ao ⟨fun _ => Py.fld fld270_0 xe xoff⟩ ?_
      refine JM.py ao ⟨fun _ => Py.idxA Tryz.underlying249 siz45 xe ev_const (by omega) xidx xmult⟩ ?_
      refine JM.ld ao scal45 xe xpick xrow ?_
      refine JM.py ao ⟨fun _ => Py.nil xe⟩ ?_
      refine JM.py ao ⟨fun _ => Py.fld fld270_0 xe xoff⟩ ?_
      refine JM.py ao ⟨fun _ => Py.idxA Tryz.underlying249 siz45 xe ev_const (by omega) xidx xmult⟩ ?_
      refine JM.eff ao ?_
      refine JO.store siz45 xe xe (by first | rfl | assumption) xpick xsize xnorm ?_
      refine JO.nil ?_
      refine JX.mix (Kept.drop (Forced.step (by kernel_rfl)) (Kept.drop (Forced.step (by kernel_rfl)) (Kept.drop (Forced.step (by kernel_rfl)) Kept.nil))) ?_
      refine JM.nil (JX.code (JC.region ?_))
      refine oM ?_
      refine JO.py (Py.nil xe) ?_
      refine JO.py (Py.fld fld237_1 xe xoff) ?_
      refine JO.py (Py.load scal204 xe xpick xrow) ?_
      refine oM ?_
      refine JO.py (Py.nil xe) ?_
      refine JO.py (Py.fld fld270_0 xe xoff) ?_
      refine JO.py (Py.idxA Tryz.underlying249 siz45 xe ev_const (by omega) xidx xmult) ?_
      refine JO.store siz45 xe xe (by first | rfl | assumption) xpick xsize xnorm ?_
      refine JO.nil ?_
      refine JX.as (A := cel sb 270 _) (A' := cel sb 270 (stC T M4 c ⟨q.r2, q.r0, q.r1, q.r3, q.st⟩)) xpick (cel_eq (by exact stC_rot2 q)) ?_
      subst hM4d
      refine JX.cut () xag (by rw [rot2, show repT q.st pos 2 = [.bit 3 q.st true, .bit 4 q.st false] from rfl]; exact xpkE) rfl
    · skip
      have nb : (3 != 0).toNat = 1 := rfl
      refine JC.as (A := DecS g S M3 (repT q.st pos 3 ++ (lenEv repI m pos ++ l))) (A' := DecS g S M3 (.bit 3 q.st true :: .bit 4 q.st true :: (lenEv repI m pos ++ l))) xpick (rfl) ?_
      refine cF ?_
      refine JC.seq ?_
      refine JC.regionM [(0, true), (1, true), (2, true), (3, true), (4, true), (5, true), (6, true), (7, true), (8, true), (9, true), (10, true), (11, true), (12, false), (13, true), (14, true), (15, true), (16, true), (17, true)] mixed (by kernel_rfl) ?_
      refine JM.py ao ⟨fun _ => Py.move xe⟩ ?_
      refine JM.py ao ⟨fun _ => Py.nil xe⟩ ?_
      refine JM.py ao ⟨fun _ => Py.fld fld237_1 xe xoff⟩ ?_
      refine JM.ld ao scal204 xe xpick xrow ?_
      refine JM.py ao ⟨fun _ => Py.move xe⟩ ?_
      refine JM.py ao ⟨fun _ => Py.nil xe⟩ ?_
      refine JM.py ao ⟨fun _ => Py.fld fld270_5 xe xoff⟩ ?_
      refine JM.py ao ⟨fun _ => Py.idxA Tryz.underlying252 siz250 xe xe (by omega) xidx xmult⟩ ?_
      refine JM.py ao ⟨fun _ => Py.move xe⟩ ?_
      refine JM.py ao ⟨fun _ => Py.nil xe⟩ ?_
      refine JM.py ao ⟨fun _ => Py.fld fld237_2 xe xoff⟩ ?_
      refine JM.ld ao scal235 xe xpick xrow ?_
      refine JM.eff ao ?_
      refine JO.call (Evs.cons xe (Evs.cons xe Evs.nil)) (dbitS G g S hM3 _ c q sb p3 (ix := q.st) (by omega) (hR.no _ _ _ p3) true) xpkE ?_
      rintro _
      show JO _ _ _ _ _ _ _ ((282, _) :: _) _ (_ :: _ :: _ :: _ :: _)
      refine JO.nil ?_
      refine JX.mix (Kept.drop (Forced.step (by kernel_rfl)) (Kept.drop (Forced.trans (q := 5) (Forced.step (by kernel_rfl)) (Forced.trans (q := 6) (Forced.step (by kernel_rfl)) (Forced.trans (q := 7) (Forced.step (by kernel_rfl)) (Forced.step (by kernel_rfl))))) Kept.nil)) ?_
      refine JM.py ao ⟨fun _ => Py.move xe⟩ ?_
      refine JM.py ao ⟨fun _ => Py.extrI xe xix⟩ ?_
      refine JM.py ao ⟨fun _ => Py.extrI xe xix⟩ ?_
      refine JM.py ao ⟨fun _ => Py.assign xe⟩ ?_
      refine JM.py ao ⟨fun _ => Py.assign xe⟩ ?_
      refine JM.nil (JX.code (JC.seq (sR ?_)))
      refine oM ?_
      first | refine JO.py (Py.neqNil Tryz.underlying70 xe rfl) ?_ | refine JO.py (Py.neqHeld Tryz.underlying70 xe rfl) ?_
      refine nC ?_
      refine cF ?_
      refine JC.skip (JX.code (JC.seq (sR ?_)))
      refine oM ?_
      first | refine oD (Py.eql xe ev_const) ?_ | refine oU (Py.eql xe ev_const) ?_ | refine JO.py (Py.eql xe ev_const) ?_
      refine nC ?_
      refine cF ?_
      refine JC.seq ?_
      refine JC.regionM [(0, true), (1, true), (2, true), (3, true), (4, true), (5, true), (6, true), (7, true), (8, true), (9, true), (10, true), (11, true), (12, false), (13, true), (14, true), (15, true), (16, true), (17, true)] mixed (by kernel_rfl) ?_
      refine JM.py ao ⟨fun _ => Py.move xe⟩ ?_
      refine JM.py ao ⟨fun _ => Py.nil xe⟩ ?_
      refine JM.py ao ⟨fun _ => Py.fld fld237_1 xe xoff⟩ ?_
      refine JM.ld ao scal204 xe xpick xrow ?_
      refine JM.py ao ⟨fun _ => Py.move xe⟩ ?_
      refine JM.py ao ⟨fun _ => Py.nil xe⟩ ?_
      refine JM.py ao ⟨fun _ => Py.fld fld270_6 xe xoff⟩ ?_
      refine JM.py ao ⟨fun _ => Py.idxA Tryz.underlying252 siz250 xe xe (by omega) xidx xmult⟩ ?_
      refine JM.py ao ⟨fun _ => Py.move xe⟩ ?_
      refine JM.py ao ⟨fun _ => Py.nil xe⟩ ?_
      refine JM.py ao ⟨fun _ => Py.fld fld237_2 xe xoff⟩ ?_
      refine JM.ld ao scal235 xe xpick xrow ?_
      refine JM.eff ao ?_
      refine JO.call (Evs.cons xe (Evs.cons xe Evs.nil)) (dbitS G g S (evM_ok hM3 _) _ c q sb p4 (ix := q.st) (by omega) (hR.no _ _ _ p4) true) xpkE ?_
      rintro _
      show JO _ _ _ _ _ _ _ ((311, _) :: _) _ (_ :: _ :: _ :: _ :: _)
      refine JO.nil ?_
      refine JX.mix (Kept.drop (Forced.step (by kernel_rfl)) (Kept.drop (Forced.trans (q := 5) (Forced.step (by kernel_rfl)) (Forced.trans (q := 6) (Forced.step (by kernel_rfl)) (Forced.trans (q := 7) (Forced.step (by kernel_rfl)) (Forced.step (by kernel_rfl))))) Kept.nil)) ?_
      refine JM.py ao ⟨fun _ => Py.move xe⟩ ?_
      refine JM.py ao ⟨fun _ => Py.extrI xe xix⟩ ?_
      refine JM.py ao ⟨fun _ => Py.extrI xe xix⟩ ?_
      refine JM.py ao ⟨fun _ => Py.assign xe⟩ ?_
      refine JM.py ao ⟨fun _ => Py.assign xe⟩ ?_
      refine JM.nil (JX.code (JC.seq (sR ?_)))
      refine oM ?_
      first | refine JO.py (Py.neqNil Tryz.underlying70 xe rfl) ?_ | refine JO.py (Py.neqHeld Tryz.underlying70 xe rfl) ?_
      refine nC ?_
      refine cF ?_
      refine JC.skip (JX.code (JC.seq (sR ?_)))
      refine oM ?_
      first | refine oD (Py.eql xe ev_const) ?_ | refine oU (Py.eql xe ev_const) ?_ | refine JO.py (Py.eql xe ev_const) ?_
      refine nC ?_
      refine cF ?_
      refine JC.seq ?_
      refine JC.renD xpick xpick xpick ?_
      intro M4 hM4d
      have y0 := stC_r0 (T := T) (M := M4) (c := c) (q := q)
      have y1 := stC_r1 (T := T) (M := M4) (c := c) (q := q)
      have y2 := stC_r2 (T := T) (M := M4) (c := c) (q := q)
      have y3 := stC_r3 (T := T) (M := M4) (c := c) (q := q)
      have z3 := stC_lt (T := T) (M := M4) (c := c) (q := q) (i := 3) (by decide)
      have z2 := set_lt (k := 3) (w := .int .u32 (q.r2 : Nat)) (stC_lt (T := T) (M := M4) (c := c) (q := q) (i := 2) (by decide))
      have z1 := set_lt (k := 2) (w := .int .u32 (q.r1 : Nat)) (set_lt (k := 3) (w := .int .u32 (q.r2 : Nat)) (stC_lt (T := T) (M := M4) (c := c) (q := q) (i := 1) (by decide)))
      have z0 := set_lt (k := 1) (w := .int .u32 (q.r0 : Nat)) (set_lt (k := 2) (w := .int .u32 (q.r1 : Nat)) (set_lt (k := 3) (w := .int .u32 (q.r2 : Nat)) (stC_lt (T := T) (M := M4) (c := c) (q := q) (i := 0) (by decide))))
      have s1 := set_ne (k := 3) (w := .int .u32 (q.r2 : Nat)) y1 (by decide)
      have s0 := set_ne (k := 2) (w := .int .u32 (q.r1 : Nat)) (set_ne (k := 3) (w := .int .u32 (q.r2 : Nat)) y0 (by decide)) (by decide)
      refine JC.region ?_
      refine oM ?_
      refine JO.py (Py.nil xe) ?_
      refine JO.py (Py.fld fld237_1 xe xoff) ?_
      refine JO.py (Py.load scal204 xe xpick xrow) ?_
      refine JO.py (Py.nil xe) ?_
      refine JO.py (Py.fld fld270_0 xe xoff) ?_
      refine JO.py (Py.idxA Tryz.underlying249 siz45 xe ev_const (by omega) xidx xmult) ?_
      refine JO.py (Py.load scal45 xe xpick xrow) ?_
      refine oA ?_
      refine nC ?_
      refine JC.regionM [(0, true), (1, true), (2, true), (3, true), (4, true), (5, true), (6, true), (7, true), (8, true), (9, true), (10, true), (11, true), (12, true), (13, true), (14, true), (15, false)] mixed (by kernel_rfl) ?_
      refine JM.py ao ⟨fun _ => Py.move xe⟩ ?_
      refine JM.py ao ⟨fun _ => Py.nil xe⟩ ?_
      refine JM.py ao ⟨fun _ => Py.fld fld237_1 xe xoff⟩ ?_
      refine JM.ld ao scal204 xe xpick xrow ?_
      refine JM.py ao ⟨fun _ => Py.move xe⟩ ?_
      refine JM.py ao ⟨fun _ => Py.nil xe⟩ ?_
      refine JM.py ao ⟨fun _ => Py.fld fld237_1 xe xoff⟩ ?_
      refine JM.ld ao scal204 xe xpick xrow ?_
      refine JM.py ao ⟨fun _ => Py.nil xe⟩ ?_
      refine JM.py ao ⟨fun _ => Py.fld fld270_0 xe xoff⟩ ?_
      refine JM.py ao ⟨fun _ => Py.idxA Tryz.underlying249 siz45 xe ev_const (by omega) xidx xmult⟩ ?_
      refine JM.ld ao scal45 xe xpick xrow ?_
      refine JM.py ao ⟨fun _ => Py.nil xe⟩ ?_
      refine JM.py ao ⟨fun _ => Py.fld fld270_0 xe xoff⟩ ?_
      refine JM.py ao ⟨fun _ => Py.idxA Tryz.underlying249 siz45 xe ev_const (by omega) xidx xmult⟩ ?_
      refine JM.eff ao ?_
      refine JO.store siz45 xe xe (by first | rfl | assumption) xpick xsize xnorm ?_
      refine JO.nil ?_
      refine JX.mix (Kept.drop (Forced.step (by kernel_rfl)) (Kept.drop (Forced.step (by kernel_rfl)) (Kept.drop (Forced.step (by kernel_rfl)) Kept.nil))) ?_
      refine JM.nil (JX.code ?_)
      refine JC.regionM [(0, true), (1, true), (2, true), (3, true), (4, true), (5, true), (6, true), (7, true), (8, true), (9, true), (10, true), (11, true), (12, true), (13, true), (14, true), (15, false)] mixed (by kernel_rfl) ?_
      refine JM.py ao ⟨fun _ => Py.move xe⟩ ?_
      refine JM.py ao ⟨fun _ => Py.nil xe⟩ ?_
      refine JM.py ao ⟨fun _ => Py.fld fld237_1 xe xoff⟩ ?_
      refine JM.ld ao scal204 xe xpick xrow ?_
      refine JM.py ao ⟨fun _ => Py.move xe⟩ ?_
      refine JM.py ao ⟨fun _ => Py.nil xe⟩ ?_
      refine JM.py ao ⟨fun _ => Py.fld fld237_1 xe xoff⟩ ?_
      refine JM.ld ao scal204 xe xpick xrow ?_
      refine JM.py ao ⟨fun _ => Py.nil xe⟩ ?_
      refine JM.py ao ⟨fun _ => Py.fld fld270_0 xe xoff⟩ ?_
      refine JM.py ao ⟨fun _ => Py.idxA Tryz.underlying249 siz45 xe ev_const (by omega) xidx xmult⟩ ?_
      refine JM.ld ao scal45 xe xpick xrow ?_
      refine JM.py ao ⟨fun _ => Py.nil xe⟩ ?_
      refine JM.py ao ⟨fun _ => Py.fld fld270_0 xe xoff⟩ ?_
      refine JM.py ao ⟨fun _ => Py.idxA Tryz.underlying249 siz45 xe ev_const (by omega) xidx xmult⟩ ?_
      refine JM.eff ao ?_
      refine JO.store siz45 xe xe (by first | rfl | assumption) xpick xsize xnorm ?_
      refine JO.nil ?_
      refine JX.mix (Kept.drop (Forced.step (by kernel_rfl)) (Kept.drop (Forced.step (by kernel_rfl)) (Kept.drop (Forced.step (by kernel_rfl)) Kept.nil))) ?_
      refine JM.nil (JX.code (JC.seq ?_))
      refine JC.regionM [(0, true), (1, true), (2, true), (3, true), (4, true), (5, true), (6, true), (7, true), (8, true), (9, true), (10, true), (11, true), (12, true), (13, true), (14, true), (15, false)] mixed (by kernel_rfl) ?_
      refine JM.py ao ⟨fun _ => Py.move xe⟩ ?_
      refine JM.py ao ⟨fun _ => Py.nil xe⟩ ?_
      refine JM.py ao ⟨fun _ => Py.fld fld237_1 xe xoff⟩ ?_
      refine JM.ld ao scal204 xe xpick xrow ?_
      refine JM.py ao ⟨fun _ => Py.move xe⟩ ?_
      refine JM.py ao ⟨fun _ => Py.nil xe⟩ ?_
      refine JM.py ao ⟨fun _ => Py.fld fld237_1 xe xoff⟩ ?_
      refine JM.ld ao scal204 xe xpick xrow ?_
      refine JM.py ao ⟨fun _ => Py.nil xe⟩ ?_
      refine JM.py ao ⟨fun _ => Py.fld fld270_0 xe xoff⟩ ?_
      refine JM.py ao ⟨fun _ => Py.idxA Tryz.underlying249 siz45 xe ev_const (by omega) xidx xmult⟩ ?_
      refine JM.ld ao scal45 xe xpick xrow ?_
      refine JM.py ao ⟨fun _ => Py.nil xe⟩ ?_
      refine JM.py ao ⟨fun _ => Py.fld fld270_0 xe xoff⟩ ?_
      refine JM.py ao ⟨fun _ => Py.idxA Tryz.underlying249 siz45 xe ev_const (by omega) xidx xmult⟩ ?_
      refine JM.eff ao ?_
      refine JO.store siz45 xe xe (by first | rfl | assumption) xpick xsize xnorm ?_
      refine JO.nil ?_
      refine JX.mix (Kept.drop (Forced.step (by kernel_rfl)) (Kept.drop (Forced.step (by kernel_rfl)) (Kept.drop (Forced.step (by kernel_rfl)) Kept.nil))) ?_
      refine JM.nil (JX.code (JC.region ?_))
      refine oM ?_
      refine JO.py (Py.nil xe) ?_
      refine JO.py (Py.fld fld237_1 xe xoff) ?_
      refine JO.py (Py.load scal204 xe xpick xrow) ?_
      refine oM ?_
      refine JO.py (Py.nil xe) ?_
      refine JO.py (Py.fld fld270_0 xe xoff) ?_
      refine JO.py (Py.idxA Tryz.underlying249 siz45 xe ev_const (by omega) xidx xmult) ?_
      refine JO.store siz45 xe xe (by first | rfl | assumption) xpick xsize xnorm ?_
      refine JO.nil ?_
      refine JX.as (A := cel sb 270 _) (A' := cel sb 270 (stC T M4 c ⟨q.r3, q.r0, q.r1, q.r2, q.st⟩)) xpick (cel_eq (by exact stC_rot3 q)) ?_
      subst hM4d
      refine JX.cut () xag (by rw [rot3, show repT q.st pos 3 = [.bit 3 q.st true, .bit 4 q.st true] from rfl]; exact xpkE) rfl
  · skip
    rintro _ base2
    obtain ⟨q2, hq2⟩ : ∃ x, q.rot k = x := ⟨_, rfl⟩
    have hst2 : q2.st < 12 := by rw [← hq2]; exact hst
    have hst3 : q2.st = q.st := by rw [← hq2]; rfl
    have hM4 : PMok (evsM M3 (repT q.st pos k)) := evsM_ok hM3 _
    rw [hq2]
    refine JX.code (JC.seq ?_)
    refine JC.regionM [(0, true), (1, true), (2, true), (3, true), (4, true), (5, true), (6, true), (7, true), (8, true), (9, true), (10, true), (11, false), (12, true), (13, true), (14, true), (15, true), (16, true)] mixed (by kernel_rfl) ?_
    refine JM.py ao ⟨fun _ => Py.move xe⟩ ?_
    refine JM.py ao ⟨fun _ => Py.nil xe⟩ ?_
    refine JM.py ao ⟨fun _ => Py.fld fld237_1 xe xoff⟩ ?_
    refine JM.ld ao scal204 xe xpick xrow ?_
    refine JM.py ao ⟨fun _ => Py.nil xe⟩ ?_
    refine JM.py ao ⟨fun _ => Py.fld fld270_9 xe xoff⟩ ?_
    refine JM.py ao ⟨fun _ => Py.move xe⟩ ?_
    refine JM.py ao ⟨fun _ => Py.nil xe⟩ ?_
    refine JM.py ao ⟨fun _ => Py.fld fld237_2 xe xoff⟩ ?_
    refine JM.ld ao scal235 xe xpick xrow ?_
    refine JM.py ao ⟨fun _ => Py.move xe⟩ ?_
    refine JM.eff ao ?_
    refine JO.call (Evs.cons xe (Evs.cons xe (Evs.cons xe Evs.nil))) (lengthD_con G g S T c hR _ hM4 repI hR.rep 505 m pos l q2 sb pr (fun M j hj => stC_repl hj) hm hpos) xpkE ?_
    rintro _
    show JO _ _ _ _ _ _ _ ((400, _) :: _) _ (_ :: _ :: _ :: _ :: _)
    refine JO.nil ?_
    refine JX.mix (Kept.drop (Forced.step (by kernel_rfl)) (Kept.drop (Forced.trans (q := 4) (Forced.step (by kernel_rfl)) (Forced.trans (q := 5) (Forced.step (by kernel_rfl)) (Forced.step (by kernel_rfl)))) Kept.nil)) ?_
    refine JM.py ao ⟨fun _ => Py.move xe⟩ ?_
    refine JM.py ao ⟨fun _ => Py.extrI xe xix⟩ ?_
    refine JM.py ao ⟨fun _ => Py.extrI xe xix⟩ ?_
    refine JM.py ao ⟨fun _ => Py.assign xe⟩ ?_
    refine JM.py ao ⟨fun _ => Py.assign xe⟩ ?_
    refine JM.nil (JX.code (JC.seq (sR ?_)))
    refine oM ?_
    first | refine JO.py (Py.neqNil Tryz.underlying70 xe rfl) ?_ | refine JO.py (Py.neqHeld Tryz.underlying70 xe rfl) ?_
    refine nC ?_
    refine cF ?_
    refine JC.skip (JX.code (sR ?_))
    refine oM ?_
    refine JO.py (Py.nil xe) ?_
    refine JO.py (Py.fld fld237_1 xe xoff) ?_
    refine JO.py (Py.load scal204 xe xpick xrow) ?_
    refine JO.call (Evs.cons xe Evs.nil) (updRep_con G T _ c q2 sb hst2) xpkE ?_
    rintro _
    show JO _ _ _ _ _ _ _ ((410, _) :: _) _ (_ :: _ :: _)
    refine nC (sR ?_)
    refine oM ?_
    first | refine JO.py (Py.conv cnv45_3 xe wI) ?_ | refine JO.py (Py.conv cnv45_3 xe rfl) ?_
    refine JO.py (Py.add xe ev_const wI) ?_
    refine oM ?_
    first | refine JO.py (Py.conv cnv45_2 xe wI) ?_ | refine JO.py (Py.conv cnv45_2 xe rfl) ?_
    refine JO.py (Py.add xe ev_const wI) ?_
    refine JO.py (Py.build bld344 (Pts.cons xe (Pts.cons xe Pts.nil)) xfl) ?_
    refine JO.py (Py.mki mki344 xe) ?_
    refine oA ?_
    refine nC (sR ?_)
    refine oM ?_
    refine oA ?_
    refine oC ?_
    refine nC (JC.ret ?_)
    subst hM3d
    rw [hst3]
    refine JX.end2 (Or.inl rfl) (()) Tryz.results154 (tup2 ((xe).trans (by exact viface (vagg (varr (vcons (vint (by omega)) (vcons (vint (by omega)) rfl)))))) ((xe).trans (xval))) xpkE
end Go.Proofs.YtfpepghmbeoanaaGreatDoor
end

section
open Go Go.RowKit
namespace Go.Proofs.YtfpepghmbeoanaaGreatDoor
open Lz
def opV (bs : List Nat) (S : LzS) : Sym → Value
  | .lit => .iface 347 (.agg #[.int .u8 (bs.getD S.i 0 : Nat)])
  | .rep k n => .iface 344 (.agg #[.int .i64 (S.rk k + 1 : Nat), .int .i64 (n : Nat)])
  | .mat d n => .iface 344 (.agg #[.int .i64 (d + 1 : Nat), .int .i64 (n : Nat)])
/-- The bytes of a piece are those of the whole from there on. -/
structure At2 (all bs : List Nat) (pre : Nat) : Prop where
  eq : ∀ j, j < bs.length → all.getD (pre + j) 0 = bs.getD j 0
  all : ∀ x ∈ all, x < 256
theorem At2.byte {all bs : List Nat} {pre : Nat} (h : At2 all bs pre) {i dist : Nat} (hi : i ≤ bs.length) (hd : 0 < dist ∧ dist ≤ i) : byteAt all (pre + i) i dist = bs.getD (i - dist) 0 := by
  unfold byteAt
  rw [if_pos hd, show pre + i - dist = pre + (i - dist) by omega, h.eq _ (by omega)]
theorem At2.lt {all bs : List Nat} {pre : Nat} (h : At2 all bs pre) {j : Nat} (hj : j < bs.length) : bs.getD j 0 < 256 := by
  rw [← h.eq j hj, List.getD_eq_getElem?_getD]
  cases hx : all[pre + j]? with
  | none => simp
  | some v => exact h.all v (List.mem_of_getElem? hx)
theorem ls_litO {all bs : List Nat} {pre : Nat} (h : At2 all bs pre) (c : Cfg) {i : Nat} (hi : i ≤ bs.length) : 768 * c.ls (byteAt all (pre + i) i 1) i = c.litO bs i := by
  unfold Cfg.ls Cfg.litO
  by_cases h0 : i = 0
  · subst h0; simp [byteAt]
  · rw [h.byte hi (by omega), if_neg h0]
theorem regs_r (S : LzS) {k : Nat} (hk : k < 4) : S.regs.r k = S.rk k := by
  have : k = 0 ∨ k = 1 ∨ k = 2 ∨ k = 3 := by omega
  rcases this with rfl | rfl | rfl | rfl <;> rfl
theorem regs_rot (S : LzS) (k n : Nat) (hk : k < 4) : ({ S.regs.rot k with st := matSt S.regs.st 8 11 } : Regs) = (S.next (.rep k n)).regs := by
  have : k = 0 ∨ k = 1 ∨ k = 2 ∨ k = 3 := by omega
  rcases this with rfl | rfl | rfl | rfl <;> rfl
theorem readOp_con (G : Gst) (R : ByteSrc G) (T : Tab) (c : Cfg) (hc : c.Ok) (hR : RowsD T c) (M : PM) (hM : PMok M) (d dd db sb g start size n re pre : Nat) (all bs : List Nat) (hA : At2 all bs pre) (l : List Ev) (S : LzS) (hS : S.Ok bs.length) (y : Sym) (hv : Valid bs S y) (hdy : ∀ d n, y = .mat d n → d < 1048576)
    (hn : pre + bs.length + 300 ≤ n ∧ n ≤ 100000) :
    Con Tryz.prog G 154 #[.pointer (some ⟨d, 0, none⟩)] [DecC d dd sb g start size false, DictC dd db n (pre + S.i) re S.i, DictD db all (pre + S.i) n, cel sb 270 (stC T M c S.regs), ChD T M, DecS g R M (symEv c bs S y ++ l)] (fun _ : Unit => .tuple #[opV bs S y, .nilIface])
      (fun _ => [DecC d dd sb g start size false, DictC dd db n (pre + S.i) re S.i, DictD db all (pre + S.i) n, cel sb 270 (stC T (evsM M (symEv c bs S y)) c (S.next y).regs), ChD T (evsM M (symEv c bs S y)), DecS g R (evsM M (symEv c bs S y)) l]) := by
  have hst := hS.st
  have hi := hS.i
  have hr := hS.r
  cases y with
  | lit =>
    have h := readLit_con G R T c hc hR M hM S.regs d dd db sb g start size n (pre + S.i) re S.i (bs.getD S.i 0) (bs.getD (S.i - S.r0 - 1) 0) all l hA.all (by omega) (by omega) (by omega) (hA.lt hv.1) hst (by show S.r0 < _; omega) (fun h7 => by
      have := hS.old h7
      show byteAt all (pre + S.i) S.i (S.r0 + 1) = _
      rw [hA.byte hi (by omega), Nat.sub_sub])
    rw [ls_litO hA c hi] at h
    exact h
  | rep k m =>
    obtain ⟨hk, hm, he⟩ := hv
    have h := readRep_con G R T c hc hR M hM S.regs d dd db sb g start size n (pre + S.i) re S.i m k all l (by omega) hst ⟨hm, he.le⟩ hk (by rw [regs_r S hk]; have := hS.rk_le k; omega)
    rw [regs_r S hk, regs_rot S k m hk] at h
    simp only [symEv, List.cons_append, List.append_assoc, evsM_cons, evsM_append]
    exact h
  | mat dist m =>
    obtain ⟨hm, he⟩ := hv
    have h := readMat_con G R T c hc hR M hM S.regs d dd db sb g start size n (pre + S.i) re S.i m dist all l (by omega) hst ⟨hm, he.le⟩ (hdy _ _ rfl)
    exact h
set_option maxRecDepth 100000 in
theorem applyM_con (G : Gst) (d dd db sb g start size n fr re hd dist len : Nat) (all : List Nat) (hn : 1 ≤ n ∧ n ≤ 100000) (h : re ≤ fr ∧ fr + len < n) (hh : hd ≤ fr ∧ hd + 1 < n) (hd1 : 1 ≤ dist ∧ dist ≤ hd) (hl : 1 ≤ len ∧ len ≤ 273) (heq : ∀ j, j < len → all.getD (fr + j) 0 = all.getD (fr + j - dist) 0) :
    Con Tryz.prog G 157 #[.pointer (some ⟨d, 0, none⟩), .iface 344 (.agg #[.int .i64 (dist : Nat), .int .i64 (len : Nat)])] [DecC d dd sb g start size false, DictC dd db n fr re hd, DictD db all fr n] (fun _ : Unit => .nilIface) (fun _ => [DecC d dd sb g start size false, DictC dd db n (fr + len) re (hd + len), DictD db all (fr + len) n]) := by
  refine Con.intro Tryz.func157 rfl (by kernel_rfl) Tryz.ntmps157 (Nat.le_of_ble_eq_true rfl) ?_
  intro F
  show JC _ _ _ _ _ _ [(0, _), (1, _)] _ [_, _, _, _]
  refine sR ?_
  refine oC ?_
  refine nC (sR ?_)
  refine oC ?_
  refine nC (JC.seq (sR ?_))
  refine oM ?_
  refine nC (JC.block (sR ?_))
  refine JO.py (Py.asT Tryz.underlying344 xe) ?_
  refine JO.py (Py.extrI xe xix) ?_
  refine JO.py (Py.extrI xe xix) ?_
  refine nC ?_
  refine cT ?_
  refine sR ?_
  refine JO.allocA zer344 ?_; intro b6
  refine JO.storeW siz344 xe xe (by first | rfl | (simp; done) | assumption | fail) (by first | (simp [Value.oneCell']; done) | assumption | fail) xpick (by first | rfl | (simp; done) | assumption | fail) ?_
  refine nC ?_
  refine JC.regionM [(0, true), (1, true), (2, true), (3, true), (4, true), (5, true), (6, true), (7, true), (8, false), (9, true)] mixed (by kernel_rfl) ?_
  refine JM.py ao ⟨fun _ => Py.move xe⟩ ?_
  refine JM.py ao ⟨fun _ => Py.nil xe⟩ ?_
  refine JM.py ao ⟨fun _ => Py.fld fld237_0 xe xoff⟩ ?_
  refine JM.ld ao scal187 xe xpick xrow ?_
  refine JM.py ao ⟨fun _ => Py.fld fld344_0 xe xoff⟩ ?_
  refine JM.ld ao scal2 xe xpick xrow ?_
  refine JM.py ao ⟨fun _ => Py.fld fld344_1 xe xoff⟩ ?_
  refine JM.ld ao scal3 xe xpick xrow ?_
  refine JM.eff ao ?_
  refine JO.call (Evs.cons xe (Evs.cons xe (Evs.cons xe Evs.nil))) (writeMatch_con G dd db n fr re hd dist len all hn h hh hd1 hl heq) xpkE ?_
  rintro _
  show JO _ _ _ _ _ _ _ ((22, _) :: _) _ (_ :: _ :: _ :: _)
  refine JO.nil ?_
  refine JX.mix (Kept.drop (Forced.step (by kernel_rfl)) (Kept.drop (Forced.step (by kernel_rfl)) (Kept.drop (Forced.step (by kernel_rfl)) Kept.nil))) ?_
  refine JM.py ao ⟨fun _ => Py.assign xe⟩ ?_
  refine JM.nil (JX.blockN (JX.code (sR ?_)))
  refine oM ?_
  refine oA ?_
  refine nC (JC.ret ?_)
  refine JX.end1 (Or.inl rfl) (()) Tryz.results157 ((xe).trans (by first | exact xval | (dsimp only; exact xval))) xpkE
set_option maxRecDepth 100000 in
theorem applyL_con (G : Gst) (d dd db sb g start size n fr re hd x : Nat) (all : List Nat) (hn : n ≤ 100000) (h : re ≤ fr ∧ fr + 1 < n) (hh : hd ≤ fr) (hx : x = all.getD fr 0) (hx2 : x < 256) :
    Con Tryz.prog G 157 #[.pointer (some ⟨d, 0, none⟩), .iface 347 (.agg #[.int .u8 (x : Nat)])] [DecC d dd sb g start size false, DictC dd db n fr re hd, DictD db all fr n] (fun _ : Unit => .nilIface) (fun _ => [DecC d dd sb g start size false, DictC dd db n (fr + 1) re (hd + 1), DictD db all (fr + 1) n]) := by
  refine Con.intro Tryz.func157 rfl (by kernel_rfl) Tryz.ntmps157 (Nat.le_of_ble_eq_true rfl) ?_
  intro F
  show JC _ _ _ _ _ _ [(0, _), (1, _)] _ [_, _, _, _]
  refine sR ?_
  refine oC ?_
  refine nC (sR ?_)
  refine oC ?_
  refine nC (JC.seq (sR ?_))
  refine oM ?_
  refine nC (JC.block (sR ?_))
  refine JO.py (Py.asF Tryz.underlying344 zer344 xe rfl) ?_
  refine JO.py (Py.extrI xe xix) ?_
  refine JO.py (Py.extrI xe xix) ?_
  refine nC ?_
  refine cF ?_
  refine sR ?_
  refine JO.py (Py.asT Tryz.underlying347 xe) ?_
  refine JO.py (Py.extrI xe xix) ?_
  refine JO.py (Py.extrI xe xix) ?_
  refine nC ?_
  refine cT ?_
  refine sR ?_
  refine JO.allocA zer347 ?_; intro b7
  refine JO.storeW siz347 xe xe (by first | rfl | (simp; done) | assumption | fail) (by first | (simp [Value.oneCell']; done) | assumption | fail) xpick (by first | rfl | (simp; done) | assumption | fail) ?_
  refine nC ?_
  refine JC.regionM [(0, true), (1, true), (2, true), (3, true), (4, true), (5, true), (6, false), (7, true)] mixed (by kernel_rfl) ?_
  refine JM.py ao ⟨fun _ => Py.move xe⟩ ?_
  refine JM.py ao ⟨fun _ => Py.nil xe⟩ ?_
  refine JM.py ao ⟨fun _ => Py.fld fld237_0 xe xoff⟩ ?_
  refine JM.ld ao scal187 xe xpick xrow ?_
  refine JM.py ao ⟨fun _ => Py.fld fld347_0 xe xoff⟩ ?_
  refine JM.ld ao scal5 xe xpick xrow ?_
  refine JM.eff ao ?_
  refine JO.call (Evs.cons xe (Evs.cons xe Evs.nil)) (dictByte_con G dd db n fr re hd x all hn h hh hx hx2) xpkE ?_
  rintro _
  show JO _ _ _ _ _ _ _ ((32, _) :: _) _ (_ :: _ :: _ :: _)
  refine JO.nil ?_
  refine JX.mix (Kept.drop (Forced.step (by kernel_rfl)) (Kept.drop (Forced.step (by kernel_rfl)) Kept.nil)) ?_
  refine JM.py ao ⟨fun _ => Py.assign xe⟩ ?_
  refine JM.nil (JX.blockN (JX.code (sR ?_)))
  refine oM ?_
  refine oA ?_
  refine nC (JC.ret ?_)
  refine JX.end1 (Or.inl rfl) (()) Tryz.results157 ((xe).trans (by first | exact xval | (dsimp only; exact xval))) xpkE
theorem apply_con (G : Gst) (d dd db sb g start size n re pre : Nat) (all bs : List Nat) (hA : At2 all bs pre) (S : LzS) (hS : S.Ok bs.length) (y : Sym) (hv : Valid bs S y) (hn : pre + bs.length + 300 ≤ n ∧ n ≤ 100000) (hre : re ≤ pre + S.i) :
    Con Tryz.prog G 157 #[.pointer (some ⟨d, 0, none⟩), opV bs S y] [DecC d dd sb g start size false, DictC dd db n (pre + S.i) re S.i, DictD db all (pre + S.i) n] (fun _ : Unit => .nilIface)
      (fun _ => [DecC d dd sb g start size false, DictC dd db n (pre + (S.next y).i) re (S.next y).i, DictD db all (pre + (S.next y).i) n]) := by
  have hi := hS.i
  have hnx := (LzS.next_ok hS y hv).i
  cases y with
  | lit =>
    exact applyL_con G d dd db sb g start size n (pre + S.i) re S.i (bs.getD S.i 0) all hn.2 (by omega) (by omega) (hA.eq _ hv.1).symm (hA.lt hv.1)
  | rep k m =>
    obtain ⟨hk, hm, he⟩ := hv
    have hdd := he.dist.resolve_left (by omega)
    have hf := he.fit
    have hle := he.le
    have h := applyM_con G d dd db sb g start size n (pre + S.i) re S.i (S.rk k + 1) m all (by omega) (by omega) (by omega) (by omega) (by omega) (fun j hj => by
      rw [Nat.add_assoc, hA.eq _ (by omega), show pre + (S.i + j) - (S.rk k + 1) = pre + (S.i + j - (S.rk k + 1)) by omega, hA.eq _ (by omega)]
      exact he.same j hj)
    rw [Nat.add_assoc pre S.i m] at h
    exact h
  | mat dist m =>
    obtain ⟨hm, he⟩ := hv
    have hdd := he.dist.resolve_left (by omega)
    have hf := he.fit
    have hle := he.le
    have h := applyM_con G d dd db sb g start size n (pre + S.i) re S.i (dist + 1) m all (by omega) (by omega) (by omega) (by omega) (by omega) (fun j hj => by
      rw [Nat.add_assoc, hA.eq _ (by omega), show pre + (S.i + j) - (dist + 1) = pre + (S.i + j - (dist + 1)) by omega, hA.eq _ (by omega)]
      exact he.same j hj)
    rw [Nat.add_assoc pre S.i m] at h
    exact h
theorem decompressed_con (G : Gst) (d dd db sb g start size n fr re hd : Nat) (eos : Bool) (hs : start ≤ hd ∧ hd ≤ 1000000) : Con Tryz.prog G 156 #[.pointer (some ⟨d, 0, none⟩)] [DecC d dd sb g start size eos, DictC dd db n fr re hd] (fun _ : Unit => .int .i64 (hd - start : Nat)) (fun _ => [DecC d dd sb g start size eos, DictC dd db n fr re hd]) := by
  refine Con.intro Tryz.func156 rfl (by kernel_rfl) Tryz.ntmps156 (Nat.le_of_ble_eq_true rfl) ?_
  intro F
  show JC _ _ _ _ _ _ [(0, _)] _ [_, _, _]
  refine sR ?_
  refine oC ?_
  refine nC (JC.seq ?_)
  refine JC.regionM [(0, true), (1, true), (2, true), (3, true), (5, true), (6, true), (7, true), (8, true), (4, false), (9, true), (10, true)] mixed (by kernel_rfl) ?_
  refine JM.py ao ⟨fun _ => Py.move xe⟩ ?_
  refine JM.py ao ⟨fun _ => Py.nil xe⟩ ?_
  refine JM.py ao ⟨fun _ => Py.fld fld237_0 xe xoff⟩ ?_
  refine JM.ld ao scal187 xe xpick xrow ?_
  refine JM.py ao ⟨fun _ => Py.move xe⟩ ?_
  refine JM.py ao ⟨fun _ => Py.nil xe⟩ ?_
  refine JM.py ao ⟨fun _ => Py.fld fld237_3 xe xoff⟩ ?_
  refine JM.ld ao scal2 xe xpick xrow ?_
  refine JM.eff ao ?_
  refine JO.call (Evs.cons xe Evs.nil) (pos_con G dd db n fr re hd) xpkE ?_
  rintro _
  show JO _ _ _ _ _ _ _ ((7, _) :: _) _ (_ :: _ :: _)
  refine JO.nil ?_
  refine JX.mix (Kept.keep (fun _ hw => hw.cell xpick xrow) (Kept.drop (Forced.step (by kernel_rfl)) Kept.nil)) ?_
  refine JM.py ao ⟨fun _ => Py.sub xe xe wI⟩ ?_
  refine JM.py ao ⟨fun _ => Py.assign xe⟩ ?_
  refine JM.nil (JX.code (JC.ret ?_))
  refine JX.end1 (Or.inl rfl) (()) Tryz.results156 ((xe).trans (by first | exact xval | (dsimp only; exact xval))) xpkE
theorem atEnd_con (G : Gst) (g : Nat) (S : ByteSrc G) (M : PM) : Con Tryz.prog G 155 #[.pointer (some ⟨g, 0, none⟩)] [DecS g S M []] (fun _ : Unit => .bool true) (fun _ => [DecS g S M []]) := by
  unfold DecS
  refine Con.intro Tryz.func155 rfl (by kernel_rfl) Tryz.ntmps155 (Nat.le_of_ble_eq_true rfl) ?_
  intro F
  show JC _ _ _ _ _ _ [(0, _)] _ [_, _]
  refine JC.open xpick ?_
  rintro ⟨⟨r, c, rb⟩, hd⟩
  show JC _ _ _ _ _ _ _ _ (_ :: _ :: _ :: _)
  dsimp only at hd ⊢
  obtain ⟨rfl, rfl⟩ := hd
  refine sR ?_
  refine oC ?_
  refine nC (sR ?_)
  refine oM ?_
  refine JO.py (Py.nil xe) ?_
  refine JO.py (Py.fld fld288_2 xe xoff) ?_
  refine JO.py (Py.load scal45 xe xpick xrow) ?_
  first | refine oD (Py.eql xe ev_const) ?_ | refine oU (Py.eql xe ev_const) ?_ | refine JO.py (Py.eql xe ev_const) ?_
  refine oA ?_
  refine nC (JC.ret ?_)
  refine JX.shut (f := (fun y : {y : Nat × Nat × List Nat // DecOK M y.1 y.2.1 y.2.2 []} => [RdA g S y.1.1 y.1.2.1, S.A y.1.2.2])) (⟨(r, 0, []), rfl, rfl⟩) xpicks ?_
  refine JX.end1 (Or.inl rfl) (()) Tryz.results155 ((xe).trans (by first | exact xval | (dsimp only; exact xval))) xpkE
end Go.Proofs.YtfpepghmbeoanaaGreatDoor
end
