/-
The filters of words, undone in memory.
-/
import Derived.Test.YtfpepghmbeoanaaGreatDoorR04
set_option linter.unusedSimpArgs false
set_option linter.unusedVariables false
open Go Go.RowKit
namespace Go.Proofs.YtfpepghmbeoanaaGreatDoor
theorem and_m4 {a : Nat} (ha : a < 9223372036854775808) : a &&& 18446744073709551612 = a / 4 * 4 := by
  have e1 : (18446744073709551612 : Nat) = 2 ^ 2 * (2 ^ 62 - 1) := by decide
  have e2 : a / 4 * 4 = 2 ^ 2 * (a / 2 ^ 2) := by omega
  rw [e1, e2]
  apply Nat.eq_of_testBit_eq
  intro i
  rw [Nat.testBit_and, Nat.testBit_two_pow_mul, Nat.testBit_two_pow_mul, Nat.testBit_two_pow_sub_one, Nat.testBit_div_two_pow]
  by_cases h2 : 2 ≤ i
  · rw [show i - 2 + 2 = i by omega]
    by_cases h3 : i - 2 < 62
    · simp [h2, h3]
    · have : a.testBit i = false := Nat.testBit_lt_two_pow (Nat.lt_of_lt_of_le ha (by rw [show (9223372036854775808 : Nat) = 2 ^ 63 by decide]; exact Nat.pow_le_pow_right (by decide) (by omega)))
      simp [this]
  · simp [h2]
section
variable {P : Program} {G : Gst} {n : Nat} {base : Nat → Value} {L : List (Nat × Value)} {As : List Asn}
theorem Py.andM4 {xt yt : TypeId} {x y : Operand} {a : Nat} (hx : ev n base L x = .int .i64 (a : Int)) (hy : ev n base L y = .int .i64 (-4)) (ha : a < 9223372036854775808) :
    Py P G n base L As (.binOp .and xt x y yt) (.int .i64 ((a / 4 * 4 : Nat) : Int)) :=
  Py.bin hx hy fun w => by
    have h : (BitVec.ofInt 64 (a : Int) &&& BitVec.ofInt 64 (-4)).toNat = a / 4 * 4 := by
      rw [BitVec.toNat_and, BitVec.ofInt_natCast, BitVec.toNat_ofNat, Nat.mod_eq_of_lt (by omega), show (BitVec.ofInt 64 (-4)).toNat = 18446744073709551612 by decide]
      exact and_m4 ha
    have h' : (BitVec.ofInt IntKind.i64.bits (a : Int) &&& BitVec.ofInt IntKind.i64.bits (-4)).toNat = a / 4 * 4 := h
    have hw : IntKind.i64.wrap ((a / 4 * 4 : Nat) : Int) = ((a / 4 * 4 : Nat) : Int) := w_i64 (by omega)
    simp only [binOp, Op.intBits, ne_eq, not_true_eq_false, if_false, h', hw, Sem.run_pure]
end
theorem xor_hi {j a x : Nat} (h : x < 2 ^ j) : x ^^^ a * 2 ^ j = x + a * 2 ^ j := by
  rw [Nat.add_comm, Nat.mul_comm]
  apply Nat.eq_of_testBit_eq
  intro i
  rw [Nat.testBit_xor, Nat.testBit_two_pow_mul, Nat.testBit_two_pow_mul_add _ h]
  by_cases hi : i < j
  · have : ¬ j ≤ i := by omega
    simp [hi, this]
  · have hx : x.testBit i = false := Nat.testBit_lt_two_pow (Nat.lt_of_lt_of_le h (Nat.pow_le_pow_right (by decide) (by omega)))
    have : j ≤ i := by omega
    simp [hi, this, hx]
namespace Bx
theorem un_be {x0 x1 x2 x3 : Nat} (h0 : x0 < 256) (h1 : x1 < 256) (h2 : x2 < 256) (h3 : x3 < 256) : un (be (x0, x1, x2, x3)) = (x0, x1, x2, x3) := by
  unfold un be
  dsimp only
  refine Prod.ext (by dsimp only; omega) (Prod.ext (by dsimp only; omega) (Prod.ext (by dsimp only; omega) (by dsimp only; omega)))
def unl (w : Nat) : W4 := (w % 256, w / 256 % 256, w / 65536 % 256, w / 16777216 % 256)
theorem unl_le {x0 x1 x2 x3 : Nat} (h0 : x0 < 256) (h1 : x1 < 256) (h2 : x2 < 256) (h3 : x3 < 256) : unl (le x0 x1 x2 x3) = (x0, x1, x2, x3) := by
  unfold unl le
  refine Prod.ext (by dsimp only; omega) (Prod.ext (by dsimp only; omega) (Prod.ext (by dsimp only; omega) (by dsimp only; omega)))
theorem be_lt {x0 x1 x2 x3 : Nat} (h0 : x0 < 256) (h1 : x1 < 256) (h2 : x2 < 256) (h3 : x3 < 256) : be (x0, x1, x2, x3) < 4294967296 := by unfold be; dsimp only; omega
theorem le_lt {x0 x1 x2 x3 : Nat} (h0 : x0 < 256) (h1 : x1 < 256) (h2 : x2 < 256) (h3 : x3 < 256) : le x0 x1 x2 x3 < 4294967296 := by unfold le; omega
theorem ppc_t {p v1 x0 x1 x2 x3 : Nat} (h : x0 / 4 = 18 ∧ x3 % 4 = 1) (hv : v1 = (be (x0, x1, x2, x3) + (4294967296 - p % 4294967296)) % 4294967296) : ppcD p (x0, x1, x2, x3) = un (v1 % 67108864 + 1207959552) := by
  have hc : ppcIf (x0, x1, x2, x3) = true := by unfold ppcIf; simp [h.1, h.2]
  unfold ppcD
  rw [if_pos hc]
  congr 1
  generalize be (x0, x1, x2, x3) = w at hv ⊢
  omega
theorem ppc_f {p x0 x1 x2 x3 : Nat} (h : ¬ (x0 / 4 = 18 ∧ x3 % 4 = 1)) : ppcD p (x0, x1, x2, x3) = (x0, x1, x2, x3) := by
  have hc : ¬ ppcIf (x0, x1, x2, x3) = true := by unfold ppcIf; simpa using h
  unfold ppcD
  rw [if_neg hc]
theorem arm_t {p v1 x0 x1 x2 x3 : Nat} (h : x3 = 235) (hv : v1 = (le x0 x1 x2 x3 + (4294967296 - (p + 8) / 4 % 4294967296)) % 4294967296) : armD p (x0, x1, x2, x3) = unl (v1 % 16777216 + 3942645760) := by
  have hc : armIf (x0, x1, x2, x3) = true := by unfold armIf; simp [h]
  unfold armD
  rw [if_pos hc]
  unfold un3 unl le3
  unfold le at hv
  dsimp only
  refine Prod.ext (by dsimp only; omega) (Prod.ext (by dsimp only; omega) (Prod.ext (by dsimp only; omega) (by dsimp only; omega)))
theorem arm_f {p x0 x1 x2 x3 : Nat} (h : ¬ x3 = 235) : armD p (x0, x1, x2, x3) = (x0, x1, x2, x3) := by
  have hc : ¬ armIf (x0, x1, x2, x3) = true := by unfold armIf; simpa using h
  unfold armD
  rw [if_neg hc]
def spV (u : Nat) : Nat := if u < 16777216 then u else 4278190080 + (u - 16777216)
theorem sp_x {u v2 : Nat} (hu : u < 33554432) (h : v2 = (u + 4278190080) % 4294967296) : v2 ^^^ 4278190080 = spV u := by
  have e : (4278190080 : Nat) = 255 * 2 ^ 24 := by decide
  unfold spV
  split
  · rename_i hl
    have h1 : v2 = u ^^^ 255 * 2 ^ 24 := by rw [xor_hi (by omega)]; omega
    rw [h1, e, Nat.xor_assoc, Nat.xor_self, Nat.xor_zero]
  · rename_i hl
    rw [e, xor_hi (by omega)]
    omega
theorem sp_t {p v1 x0 x1 x2 x3 : Nat} (h : (x0 = 64 ∧ x1 < 64) ∨ (x0 = 127 ∧ 192 ≤ x1)) (hp : p % 4 = 0) (hv : v1 = (be (x0, x1, x2, x3) * 4 + (4294967296 - p % 4294967296)) % 4294967296) : spD p (x0, x1, x2, x3) = un (spV (v1 % 33554432) / 4 + 1073741824) := by
  have hc : spIf (x0, x1, x2, x3) = true := by
    unfold spIf
    rcases h with h | h <;> simp [h.1, h.2]
  unfold spD
  rw [if_pos hc]
  unfold spT spV
  congr 1
  generalize be (x0, x1, x2, x3) = w at hv ⊢
  split <;> split <;> omega
theorem sp_f {p x0 x1 x2 x3 : Nat} (h : ¬ ((x0 = 64 ∧ x1 < 64) ∨ (x0 = 127 ∧ 192 ≤ x1))) : spD p (x0, x1, x2, x3) = (x0, x1, x2, x3) := by
  have hc : ¬ spIf (x0, x1, x2, x3) = true := by
    unfold spIf
    simpa using h
  unfold spD
  rw [if_neg hc]
end Bx
theorem win {cs : Array Value} {o i j p : Nat} {out bs : List Nat} (hR : RdOk cs o (out ++ bs.drop i)) (hl : out.length = i) (hj : i + j < bs.length) (hp : p = o + (i + j)) {x : Nat} (hx : bs.getD (i + j) 0 = x) : cs[p]? = some (vu8 x) ∧ x < 256 := by
  subst hp hx
  have hlen := Bx.cat_len (xs := bs) hl (by omega)
  have h := hR (i + j) (by omega)
  rw [Bx.cat_get hl (by omega)] at h
  exact h
theorem put_ok {cs : Array Value} {o i y0 y1 y2 y3 : Nat} {out bs : List Nat} (hR : RdOk cs o (out ++ bs.drop i)) (hl : out.length = i) (hi : i + 4 ≤ bs.length) (hs : o + bs.length ≤ cs.size) (h0 : y0 < 256) (h1 : y1 < 256) (h2 : y2 < 256) (h3 : y3 < 256) :
    RdOk ((((cs.setIfInBounds (o + i + 0) (vu8 y0)).setIfInBounds (o + i + 1) (vu8 y1)).setIfInBounds (o + i + 2) (vu8 y2)).setIfInBounds (o + i + 3) (vu8 y3)) o ((out ++ [y0, y1, y2, y3]) ++ bs.drop (i + 4)) := by
  have hlen := Bx.cat_len (xs := bs) hl (by omega)
  rw [← Bx.cat_word hl hi]
  refine RdOk.set (RdOk.set (RdOk.set (RdOk.set hR ?_ ?_ h0 ?_) ?_ ?_ h1 ?_) ?_ ?_ h2 ?_) ?_ ?_ h3 ?_ <;> first | omega | (simp only [List.length_set, Array.size_setIfInBounds, hlen]; omega)
set_option maxRecDepth 100000 in
theorem and_252 : ∀ x, x < 256 → ((x &&& 252) = 72 ↔ x / 4 = 18) := by decide
set_option maxRecDepth 100000 in
theorem and_192 : ∀ x, x < 256 → ((x &&& 192) = 0 ↔ x < 64) := by decide
def armV (p : Nat) : Nat := if p = 0 then 0 else p + 4
set_option maxRecDepth 100000 in
set_option maxHeartbeats 4000000 in
theorem ppcConv_con (G : Gst) (cb ip b o l c : Nat) (cs : Array Value) (bs : List Nat) (hb : RdOk cs o bs) (hl : bs.length = l) (hs : o + l ≤ cs.size) (h4 : 4 ≤ l) (hc : l ≤ c) (hip : ip % 4 = 0 ∧ ip + l ≤ 100000) :
    Con Tryz.prog G 263 #[.pointer (some ⟨cb, 0, none⟩), .slice (some ⟨b, o, none⟩) l c, .bool false] [cel cb 139 #[.int .u32 (ip : Nat)], cel b 5 cs] (fun x : {x : Nat × List Nat × Array Value // Bx.WmP Bx.ppcD ip bs x.1 x.2.1 ∧ l < x.1 + 4 ∧ RdOk x.2.2 o (x.2.1 ++ bs.drop x.1) ∧ x.2.2.size = cs.size} => .int .i64 (x.1.1 : Nat))
      (fun x => [cel cb 139 #[.int .u32 (ip + x.1.1 : Nat)], cel b 5 x.1.2.2]) := by
  refine Con.intro Tryz.func263 rfl (by kernel_rfl) Tryz.ntmps263 (Nat.le_of_ble_eq_true rfl) ?_
  intro F
  show JC _ _ _ _ _ _ [(0, _), (1, _), (2, _)] _ [_, _, _]
  refine sR ?_
  refine oC ?_
  refine nC (JC.seq (sR ?_))
  refine oM ?_
  refine JO.py (Py.lenS Tryz.underlying22 xe) ?_
  refine oM ?_
  refine JO.call (Evs.cons xe Evs.nil) (size4_203 G (.pointer (some ⟨cb, 0, none⟩)) (cel cb 139 #[.int .u32 (ip : Nat)])) xpkE ?_
  rintro _
  show JO _ _ _ _ _ _ _ ((12, _) :: _) _ (_ :: _ :: _)
  first | refine oD (Py.lss xe xe) ?_ | refine oU (Py.lss xe xe) ?_ | refine JO.py (Py.lss xe xe) ?_
  refine nC ?_
  refine cF ?_
  refine JC.skip (JX.code (sR ?_))
  refine oC ?_
  refine nC (JC.seq (sR ?_))
  refine oC ?_
  refine nC (JC.block ?_)
  refine JC.loop (ι := Nat × List Nat × Array Value) (fun x => Bx.WmP Bx.ppcD ip bs x.1 x.2.1 ∧ RdOk x.2.2 o (x.2.1 ++ bs.drop x.1) ∧ x.2.2.size = cs.size) (fun x => [(0, .pointer (some ⟨cb, 0, none⟩)), (1, .slice (some ⟨b, o, none⟩) l c), (2, .bool false), (7, .int .i64 (x.1 : Int))]) (fun x => [cel cb 139 #[.int .u32 (ip + x.1 : Nat)], cel b 5 x.2.2, F]) (fun x => l - x.1) (0, [], cs) ⟨Bx.WmP.zero, by simpa using hb, rfl⟩ xag xpkE ?_
  rintro ⟨i, out, cs'⟩ base' ⟨hW, hR, hz⟩
  dsimp only at hW hR hz ⊢
  have hmod := hW.mod
  have hle := hW.le
  refine JC.seq (sR ?_)
  refine oM ?_
  refine oM ?_
  refine JO.py (Py.lenS Tryz.underlying22 xe) ?_
  refine JO.py (Py.andM4 xe ev_const (by omega)) ?_
  by_cases h : i < l / 4 * 4
  · skip
    have h5 : i + 4 ≤ l := by omega
    obtain ⟨x0, e0⟩ : ∃ x, bs.getD (i + 0) 0 = x := ⟨_, rfl⟩
    obtain ⟨x1, e1⟩ : ∃ x, bs.getD (i + 1) 0 = x := ⟨_, rfl⟩
    obtain ⟨x2, e2⟩ : ∃ x, bs.getD (i + 2) 0 = x := ⟨_, rfl⟩
    obtain ⟨x3, e3⟩ : ∃ x, bs.getD (i + 3) 0 = x := ⟨_, rfl⟩
    have w0 := win (p := o + (i + 0)) hR hW.len (by omega) rfl e0
    have k0 : cs'[o + i + 0]? = some (vu8 x0) ∧ x0 < 256 := win hR hW.len (by omega) (by omega) e0
    obtain ⟨c0, l0⟩ := w0
    have w1 := win (p := o + (i + 1)) hR hW.len (by omega) rfl e1
    have k1 : cs'[o + i + 1]? = some (vu8 x1) ∧ x1 < 256 := win hR hW.len (by omega) (by omega) e1
    obtain ⟨c1, l1⟩ := w1
    have w2 := win (p := o + (i + 2)) hR hW.len (by omega) rfl e2
    have k2 : cs'[o + i + 2]? = some (vu8 x2) ∧ x2 < 256 := win hR hW.len (by omega) (by omega) e2
    obtain ⟨c2, l2⟩ := w2
    have w3 := win (p := o + (i + 3)) hR hW.len (by omega) rfl e3
    have k3 : cs'[o + i + 3]? = some (vu8 x3) ∧ x3 < 256 := win hR hW.len (by omega) (by omega) e3
    obtain ⟨c3, l3⟩ := w3
    have c00 : cs'[o + i]? = some (vu8 x0) := c0
    first | refine oD (Py.lss xe xe) ?_ | refine oU (Py.lss xe xe) ?_ | refine JO.py (Py.lss xe xe) ?_
    refine nC ?_
    refine cT ?_
    refine JC.skip (JX.code (JC.seq (JC.block (sR ?_))))
    refine oM ?_
    refine oM ?_
    refine JO.py (Py.slc (l := i) (h := l) (p := o + i) (q := l - i) (c := c - i) Tryz.underlying22 siz5 xe (Bd.some xe (by omega)) Bd.none (by omega) (by omega) (by omega) (by omega) (by omega) (by omega)) ?_
    refine JO.call (Evs.cons xe Evs.nil) (be32_con G b (o + i) (l - i) (c - i) 5 (0, 0) cs' x0 x1 x2 x3 (by omega) k0 k1 k2 k3) xpkE ?_
    rintro _
    show JO _ _ _ _ _ _ _ ((32, _) :: _) _ (_ :: _ :: _)
    have hwl := Bx.be_lt l0 l1 l2 l3
    obtain ⟨w, hw⟩ : ∃ w, Bx.be (x0, x1, x2, x3) = w := ⟨_, rfl⟩
    rw [hw] at hwl ⊢
    have hz0 := and_252 x0 l0
    obtain ⟨z0, ez0⟩ : ∃ z, x0 &&& 252 = z := ⟨_, rfl⟩
    rw [ez0] at hz0
    refine oA ?_
    refine nC (JC.seq (sR ?_))
    refine oM ?_
    refine oM ?_
    refine JO.py (Py.add xe ev_const wI) ?_
    refine JO.py (Py.idxS (j := i) Tryz.underlying22 siz5 xe xe (by omega) (by omega) xmult) ?_
    refine JO.py (Py.load scal5 xe xpick xrow) ?_
    refine JO.py (Py.to (Py.andN xe ev_const (r_u8 (by omega)) (r_u8 (by omega)) (by decide)) (v' := .int .u8 (z0 : Nat)) (vint (by rw [← ez0]; rfl))) ?_
    by_cases hq : x0 / 4 = 18 ∧ x3 % 4 = 1
    · skip
      obtain ⟨q1, q2⟩ := hq
      have q3 := hz0.2 q1
      first | refine oD (Py.eql xe ev_const) ?_ | refine oU (Py.eql xe ev_const) ?_ | refine JO.py (Py.eql xe ev_const) ?_
      refine oM ?_
      first | (refine gT ?_; (refine oM ?_)) | refine kF ?_ | refine JO.skipU rfl (Lk.ev (v := undef) xlk rfl) ?_
      first | (refine gT ?_; (refine oM ?_)) | refine kF ?_ | refine JO.skipU rfl (Lk.ev (v := undef) xlk rfl) ?_
      first | (refine gT ?_; (refine JO.py (Py.add xe ev_const wI) ?_)) | refine kF ?_ | refine JO.skipU rfl (Lk.ev (v := undef) xlk rfl) ?_
      first | (refine gT ?_; (refine JO.py (Py.idxS Tryz.underlying22 siz5 xe xe (by omega) xidx xmult) ?_)) | refine kF ?_ | refine JO.skipU rfl (Lk.ev (v := undef) xlk rfl) ?_
      first | (refine gT ?_; (refine JO.py (Py.load scal5 xe xpick xrow) ?_)) | refine kF ?_ | refine JO.skipU rfl (Lk.ev (v := undef) xlk rfl) ?_
      first | (refine gT ?_; (refine JO.py (Py.mask 2 4 xe ev_const (by decide) (by decide) (by decide) (r_u8 (by omega)) (w_u8 (by omega))) ?_)) | refine kF ?_ | refine JO.skipU rfl (Lk.ev (v := undef) xlk rfl) ?_
      first | (refine gT ?_; (first | refine oD (Py.eql xe ev_const) ?_ | refine oU (Py.eql xe ev_const) ?_ | refine JO.py (Py.eql xe ev_const) ?_)) | refine kF ?_ | refine JO.skipU rfl (Lk.ev (v := undef) xlk rfl) ?_
      first | refine JO.py (Py.pickT xe xe) ?_ | refine JO.py (Py.pickF xe ev_const) ?_
      refine nC ?_
      refine cT ?_
      refine JC.seq (sR ?_)
      refine oM ?_
      refine nC ?_
      refine cF ?_
      obtain ⟨v1, hv1⟩ : ∃ v, (w + (4294967296 - (ip + i) % 4294967296)) % 4294967296 = v := ⟨_, rfl⟩
      refine JC.region ?_
      refine oM ?_
      refine oM ?_
      refine JO.py (Py.nil xe) ?_
      refine JO.py (Py.fld fld139_0 xe xoff) ?_
      refine JO.py (Py.load scal45 xe xpick xrow) ?_
      refine JO.py (Py.to (Py.sub xe xe (m_u32 _)) (v' := .int .u32 (v1 : Nat)) (vint (by omega))) ?_
      obtain ⟨z, hzz⟩ : ∃ z, v1 % 67108864 + 1207959552 = z := ⟨_, rfl⟩
      have hzl : z < 4294967296 := by omega
      refine oA ?_
      refine nC (sR ?_)
      refine oM ?_
      refine JO.py (Py.mask 26 67108864 xe ev_const (by decide) (by decide) (by decide) (r_u32 (by omega)) (w_u32 (by omega))) ?_
      refine oA ?_
      refine nC (JC.region ?_)
      refine oM ?_
      refine JO.py (Py.to (Py.orN xe ev_const (r_u32 (by omega)) (r_u32 (by omega)) (by decide)) (v' := .int .u32 (z : Nat)) (vint (or_int (x := v1 % 67108864) (y := 1207959552) (by omega) rfl ((or_lo (k := 26) (a := 18) (by omega) rfl).trans hzz)))) ?_
      have hy : Bx.ppcD (ip + i) (x0, x1, x2, x3) = Bx.un z := by rw [← hzz]; exact Bx.ppc_t ⟨q1, q2⟩ (by rw [hw]; exact hv1.symm)
      have hW2 := hW.word (y := Bx.un z) (by omega) (by rw [show bs.getD i 0 = x0 from e0, e1, e2, e3]; exact hy)
      have hR2 := put_ok (y0 := z / 16777216 % 256) (y1 := z / 65536 % 256) (y2 := z / 256 % 256) (y3 := z / 1 % 256) hR hW.len (by omega) (by omega) (by omega) (by omega) (by omega) (by omega)
      refine oA ?_
      refine nC (JC.region ?_)
      refine oM ?_
      refine oM ?_
      refine JO.py (Py.slc (l := i) (h := l) (p := o + i) (q := l - i) (c := c - i) Tryz.underlying22 siz5 xe (Bd.some xe (by omega)) Bd.none (by omega) (by omega) (by omega) (by omega) (by omega) (by omega)) ?_
      refine oM ?_
      refine JO.call (Evs.cons xe (Evs.cons xe Evs.nil)) (putBE_con G b (o + i) (l - i) (c - i) cs' (vu8 x3) z _ _ _ _ (by omega) (by omega) k3.1 hzl rfl rfl rfl rfl) xpkE ?_
      rintro _
      show JO _ _ _ _ _ _ _ ((70, _) :: _) _ (_ :: _ :: _)
      refine JO.nil (JX.blockN (JX.code ?_))
      refine JC.regionM [(0, true), (1, true), (2, true), (3, true), (4, true), (5, true), (6, true), (7, true), (8, true), (9, true), (10, true), (11, false)] mixed (by kernel_rfl) ?_
      refine JM.py ao ⟨fun _ => Py.move xe⟩ ?_
      refine JM.py ao ⟨fun _ => Py.move xe⟩ ?_
      refine JM.py ao ⟨fun _ => Py.add xe ev_const wI⟩ ?_
      refine JM.py ao ⟨fun _ => Py.move xe⟩ ?_
      refine JM.py ao ⟨fun _ => Py.nil xe⟩ ?_
      refine JM.py ao ⟨fun _ => Py.fld fld139_0 xe xoff⟩ ?_
      refine JM.ld ao scal45 xe xpick xrow ?_
      first | refine JM.py ao ⟨fun _ => Py.add xe ev_const (w_u32 (by omega))⟩ ?_ | refine JM.py ao ⟨fun _ => Py.add xe ev_const (m_u32 _)⟩ ?_
      refine JM.py ao ⟨fun _ => Py.assign xe⟩ ?_
      refine JM.py ao ⟨fun _ => Py.nil xe⟩ ?_
      refine JM.py ao ⟨fun _ => Py.fld fld139_0 xe xoff⟩ ?_
      refine JM.eff ao ?_
      refine JO.store siz45 xe xe (by first | rfl | assumption) xpick xsize xnorm ?_
      refine JO.nil ?_
      refine JX.mix (Kept.drop (Forced.step (by kernel_rfl)) Kept.nil) ?_
      refine JM.nil ?_
      refine JX.loop (i + 4, out ++ [z / 16777216 % 256, z / 65536 % 256, z / 256 % 256, z / 1 % 256], ((((cs'.setIfInBounds (o + i + 0) (vu8 (z / 16777216 % 256))).setIfInBounds (o + i + 1) (vu8 (z / 65536 % 256))).setIfInBounds (o + i + 2) (vu8 (z / 256 % 256))).setIfInBounds (o + i + 3) (vu8 (z / 1 % 256)))) ⟨by dsimp only; rw [Nat.div_one]; exact hW2, hR2, by simp only [Array.size_setIfInBounds]; exact hz⟩ (by dsimp only; omega) xag xpkE
    · skip
      by_cases q1 : x0 / 4 = 18
      · skip
        have q3 := hz0.2 q1
        have q2 : ¬ x3 % 4 = 1 := fun q => hq ⟨q1, q⟩
        first | refine oD (Py.eql xe ev_const) ?_ | refine oU (Py.eql xe ev_const) ?_ | refine JO.py (Py.eql xe ev_const) ?_
        refine oM ?_
        first | (refine gT ?_; (refine oM ?_)) | refine kF ?_ | refine JO.skipU rfl (Lk.ev (v := undef) xlk rfl) ?_
        first | (refine gT ?_; (refine oM ?_)) | refine kF ?_ | refine JO.skipU rfl (Lk.ev (v := undef) xlk rfl) ?_
        first | (refine gT ?_; (refine JO.py (Py.add xe ev_const wI) ?_)) | refine kF ?_ | refine JO.skipU rfl (Lk.ev (v := undef) xlk rfl) ?_
        first | (refine gT ?_; (refine JO.py (Py.idxS Tryz.underlying22 siz5 xe xe (by omega) xidx xmult) ?_)) | refine kF ?_ | refine JO.skipU rfl (Lk.ev (v := undef) xlk rfl) ?_
        first | (refine gT ?_; (refine JO.py (Py.load scal5 xe xpick xrow) ?_)) | refine kF ?_ | refine JO.skipU rfl (Lk.ev (v := undef) xlk rfl) ?_
        first | (refine gT ?_; (refine JO.py (Py.mask 2 4 xe ev_const (by decide) (by decide) (by decide) (r_u8 (by omega)) (w_u8 (by omega))) ?_)) | refine kF ?_ | refine JO.skipU rfl (Lk.ev (v := undef) xlk rfl) ?_
        first | (refine gT ?_; (first | refine oD (Py.eql xe ev_const) ?_ | refine oU (Py.eql xe ev_const) ?_ | refine JO.py (Py.eql xe ev_const) ?_)) | refine kF ?_ | refine JO.skipU rfl (Lk.ev (v := undef) xlk rfl) ?_
        first | refine JO.py (Py.pickT xe xe) ?_ | refine JO.py (Py.pickF xe ev_const) ?_
        refine nC ?_
        refine cF ?_
        refine JC.skip (JX.code (JC.region ?_))
        refine oM ?_
        refine oM ?_
        have hy : Bx.ppcD (ip + i) (x0, x1, x2, x3) = Bx.un w := by rw [← hw, Bx.un_be l0 l1 l2 l3]; exact Bx.ppc_f hq
        have hW2 := hW.word (y := Bx.un w) (by omega) (by rw [show bs.getD i 0 = x0 from e0, e1, e2, e3]; exact hy)
        have hR2 := put_ok (y0 := w / 16777216 % 256) (y1 := w / 65536 % 256) (y2 := w / 256 % 256) (y3 := w / 1 % 256) hR hW.len (by omega) (by omega) (by omega) (by omega) (by omega) (by omega)
        refine JO.py (Py.slc (l := i) (h := l) (p := o + i) (q := l - i) (c := c - i) Tryz.underlying22 siz5 xe (Bd.some xe (by omega)) Bd.none (by omega) (by omega) (by omega) (by omega) (by omega) (by omega)) ?_
        refine oM ?_
        refine JO.call (Evs.cons xe (Evs.cons xe Evs.nil)) (putBE_con G b (o + i) (l - i) (c - i) cs' (vu8 x3) w _ _ _ _ (by omega) (by omega) k3.1 hwl rfl rfl rfl rfl) xpkE ?_
        rintro _
        show JO _ _ _ _ _ _ _ ((70, _) :: _) _ (_ :: _ :: _)
        refine JO.nil (JX.blockN (JX.code ?_))
        refine JC.regionM [(0, true), (1, true), (2, true), (3, true), (4, true), (5, true), (6, true), (7, true), (8, true), (9, true), (10, true), (11, false)] mixed (by kernel_rfl) ?_
        refine JM.py ao ⟨fun _ => Py.move xe⟩ ?_
        refine JM.py ao ⟨fun _ => Py.move xe⟩ ?_
        refine JM.py ao ⟨fun _ => Py.add xe ev_const wI⟩ ?_
        refine JM.py ao ⟨fun _ => Py.move xe⟩ ?_
        refine JM.py ao ⟨fun _ => Py.nil xe⟩ ?_
        refine JM.py ao ⟨fun _ => Py.fld fld139_0 xe xoff⟩ ?_
        refine JM.ld ao scal45 xe xpick xrow ?_
        first | refine JM.py ao ⟨fun _ => Py.add xe ev_const (w_u32 (by omega))⟩ ?_ | refine JM.py ao ⟨fun _ => Py.add xe ev_const (m_u32 _)⟩ ?_
        refine JM.py ao ⟨fun _ => Py.assign xe⟩ ?_
        refine JM.py ao ⟨fun _ => Py.nil xe⟩ ?_
        refine JM.py ao ⟨fun _ => Py.fld fld139_0 xe xoff⟩ ?_
        refine JM.eff ao ?_
        refine JO.store siz45 xe xe (by first | rfl | assumption) xpick xsize xnorm ?_
        refine JO.nil ?_
        refine JX.mix (Kept.drop (Forced.step (by kernel_rfl)) Kept.nil) ?_
        refine JM.nil ?_
        refine JX.loop (i + 4, out ++ [w / 16777216 % 256, w / 65536 % 256, w / 256 % 256, w / 1 % 256], ((((cs'.setIfInBounds (o + i + 0) (vu8 (w / 16777216 % 256))).setIfInBounds (o + i + 1) (vu8 (w / 65536 % 256))).setIfInBounds (o + i + 2) (vu8 (w / 256 % 256))).setIfInBounds (o + i + 3) (vu8 (w / 1 % 256)))) ⟨by dsimp only; rw [Nat.div_one]; exact hW2, hR2, by simp only [Array.size_setIfInBounds]; exact hz⟩ (by dsimp only; omega) xag xpkE
      · skip
        have q3 : ¬ z0 = 72 := fun q => q1 (hz0.1 q)
        first | refine oD (Py.eql xe ev_const) ?_ | refine oU (Py.eql xe ev_const) ?_ | refine JO.py (Py.eql xe ev_const) ?_
        refine oM ?_
        first | (refine gT ?_; (refine oM ?_)) | refine kF ?_ | refine JO.skipU rfl (Lk.ev (v := undef) xlk rfl) ?_
        first | (refine gT ?_; (refine oM ?_)) | refine kF ?_ | refine JO.skipU rfl (Lk.ev (v := undef) xlk rfl) ?_
        first | (refine gT ?_; (refine JO.py (Py.add xe ev_const wI) ?_)) | refine kF ?_ | refine JO.skipU rfl (Lk.ev (v := undef) xlk rfl) ?_
        first | (refine gT ?_; (refine JO.py (Py.idxS Tryz.underlying22 siz5 xe xe (by omega) xidx xmult) ?_)) | refine kF ?_ | refine JO.skipU rfl (Lk.ev (v := undef) xlk rfl) ?_
        first | (refine gT ?_; (refine JO.py (Py.load scal5 xe xpick xrow) ?_)) | refine kF ?_ | refine JO.skipU rfl (Lk.ev (v := undef) xlk rfl) ?_
        first | (refine gT ?_; (refine JO.py (Py.mask 2 4 xe ev_const (by decide) (by decide) (by decide) (r_u8 (by omega)) (w_u8 (by omega))) ?_)) | refine kF ?_ | refine JO.skipU rfl (Lk.ev (v := undef) xlk rfl) ?_
        first | (refine gT ?_; (first | refine oD (Py.eql xe ev_const) ?_ | refine oU (Py.eql xe ev_const) ?_ | refine JO.py (Py.eql xe ev_const) ?_)) | refine kF ?_ | refine JO.skipU rfl (Lk.ev (v := undef) xlk rfl) ?_
        first | refine JO.py (Py.pickT xe xe) ?_ | refine JO.py (Py.pickF xe ev_const) ?_
        refine nC ?_
        refine cF ?_
        refine JC.skip (JX.code (JC.region ?_))
        refine oM ?_
        refine oM ?_
        have hy : Bx.ppcD (ip + i) (x0, x1, x2, x3) = Bx.un w := by rw [← hw, Bx.un_be l0 l1 l2 l3]; exact Bx.ppc_f hq
        have hW2 := hW.word (y := Bx.un w) (by omega) (by rw [show bs.getD i 0 = x0 from e0, e1, e2, e3]; exact hy)
        have hR2 := put_ok (y0 := w / 16777216 % 256) (y1 := w / 65536 % 256) (y2 := w / 256 % 256) (y3 := w / 1 % 256) hR hW.len (by omega) (by omega) (by omega) (by omega) (by omega) (by omega)
        refine JO.py (Py.slc (l := i) (h := l) (p := o + i) (q := l - i) (c := c - i) Tryz.underlying22 siz5 xe (Bd.some xe (by omega)) Bd.none (by omega) (by omega) (by omega) (by omega) (by omega) (by omega)) ?_
        refine oM ?_
        refine JO.call (Evs.cons xe (Evs.cons xe Evs.nil)) (putBE_con G b (o + i) (l - i) (c - i) cs' (vu8 x3) w _ _ _ _ (by omega) (by omega) k3.1 hwl rfl rfl rfl rfl) xpkE ?_
        rintro _
        show JO _ _ _ _ _ _ _ ((70, _) :: _) _ (_ :: _ :: _)
        refine JO.nil (JX.blockN (JX.code ?_))
        refine JC.regionM [(0, true), (1, true), (2, true), (3, true), (4, true), (5, true), (6, true), (7, true), (8, true), (9, true), (10, true), (11, false)] mixed (by kernel_rfl) ?_
        refine JM.py ao ⟨fun _ => Py.move xe⟩ ?_
        refine JM.py ao ⟨fun _ => Py.move xe⟩ ?_
        refine JM.py ao ⟨fun _ => Py.add xe ev_const wI⟩ ?_
        refine JM.py ao ⟨fun _ => Py.move xe⟩ ?_
        refine JM.py ao ⟨fun _ => Py.nil xe⟩ ?_
        refine JM.py ao ⟨fun _ => Py.fld fld139_0 xe xoff⟩ ?_
        refine JM.ld ao scal45 xe xpick xrow ?_
        first | refine JM.py ao ⟨fun _ => Py.add xe ev_const (w_u32 (by omega))⟩ ?_ | refine JM.py ao ⟨fun _ => Py.add xe ev_const (m_u32 _)⟩ ?_
        refine JM.py ao ⟨fun _ => Py.assign xe⟩ ?_
        refine JM.py ao ⟨fun _ => Py.nil xe⟩ ?_
        refine JM.py ao ⟨fun _ => Py.fld fld139_0 xe xoff⟩ ?_
        refine JM.eff ao ?_
        refine JO.store siz45 xe xe (by first | rfl | assumption) xpick xsize xnorm ?_
        refine JO.nil ?_
        refine JX.mix (Kept.drop (Forced.step (by kernel_rfl)) Kept.nil) ?_
        refine JM.nil ?_
        refine JX.loop (i + 4, out ++ [w / 16777216 % 256, w / 65536 % 256, w / 256 % 256, w / 1 % 256], ((((cs'.setIfInBounds (o + i + 0) (vu8 (w / 16777216 % 256))).setIfInBounds (o + i + 1) (vu8 (w / 65536 % 256))).setIfInBounds (o + i + 2) (vu8 (w / 256 % 256))).setIfInBounds (o + i + 3) (vu8 (w / 1 % 256)))) ⟨by dsimp only; rw [Nat.div_one]; exact hW2, hR2, by simp only [Array.size_setIfInBounds]; exact hz⟩ (by dsimp only; omega) xag xpkE
  · skip
    first | refine oD (Py.lss xe xe) ?_ | refine oU (Py.lss xe xe) ?_ | refine JO.py (Py.lss xe xe) ?_
    refine nC ?_
    refine cF ?_
    refine JC.exit (JX.exit (JX.exit (JX.blockE (JX.code (sR ?_)))))
    refine oM ?_
    refine oA ?_
    refine nC (JC.ret ?_)
    refine JX.end1 (Or.inl rfl) (⟨(i, out, cs'), hW, by dsimp only; omega, hR, hz⟩) Tryz.results263 ((xe).trans (by first | exact xval | (dsimp only; exact xval))) xpkE
set_option maxRecDepth 100000 in
set_option maxHeartbeats 4000000 in
theorem armConv_con (G : Gst) (cb ip b o l c : Nat) (cs : Array Value) (bs : List Nat) (hb : RdOk cs o bs) (hl : bs.length = l) (hs : o + l ≤ cs.size) (h4 : 4 ≤ l) (hc : l ≤ c) (hip : ip % 4 = 0 ∧ ip + l ≤ 100000) :
    Con Tryz.prog G 266 #[.pointer (some ⟨cb, 0, none⟩), .slice (some ⟨b, o, none⟩) l c, .bool false] [cel cb 141 #[.int .u32 (armV ip : Nat)], cel b 5 cs] (fun x : {x : Nat × List Nat × Array Value // Bx.WmP Bx.armD ip bs x.1 x.2.1 ∧ l < x.1 + 4 ∧ RdOk x.2.2 o (x.2.1 ++ bs.drop x.1) ∧ x.2.2.size = cs.size} => .int .i64 (x.1.1 : Nat))
      (fun x => [cel cb 141 #[.int .u32 (ip + x.1.1 + 4 : Nat)], cel b 5 x.1.2.2]) := by
  refine Con.intro Tryz.func266 rfl (by kernel_rfl) Tryz.ntmps266 (Nat.le_of_ble_eq_true rfl) ?_
  intro F
  show JC _ _ _ _ _ _ [(0, _), (1, _), (2, _)] _ [_, _, _]
  refine sR ?_
  refine oC ?_
  refine nC (JC.seq (sR ?_))
  refine oM ?_
  refine JO.py (Py.lenS Tryz.underlying22 xe) ?_
  refine oM ?_
  refine JO.call (Evs.cons xe Evs.nil) (size4_204 G (.pointer (some ⟨cb, 0, none⟩)) (cel cb 141 #[.int .u32 (armV ip : Nat)])) xpkE ?_
  rintro _
  show JO _ _ _ _ _ _ _ ((12, _) :: _) _ (_ :: _ :: _)
  first | refine oD (Py.lss xe xe) ?_ | refine oU (Py.lss xe xe) ?_ | refine JO.py (Py.lss xe xe) ?_
  refine nC ?_
  unfold armV
  refine cF ?_
  refine JC.skip (JX.code (JC.seq (JC.seq ?_)))
  by_cases h0 : ip = 0
  · skip
    rw [if_pos h0]
    refine JC.region ?_
    refine oM ?_
    refine JO.py (Py.nil xe) ?_
    refine JO.py (Py.fld fld141_0 xe xoff) ?_
    refine JO.py (Py.load scal45 xe xpick xrow) ?_
    first | refine oD (Py.eql xe ev_const) ?_ | refine oU (Py.eql xe ev_const) ?_ | refine JO.py (Py.eql xe ev_const) ?_
    refine nC ?_
    refine cT ?_
    refine JC.region ?_
    refine oM ?_
    refine JO.py (Py.nil xe) ?_
    refine JO.py (Py.fld fld141_0 xe xoff) ?_
    refine JO.store siz45 xe ev_const (by first | rfl | assumption) xpick xsize xnorm ?_
    refine nC (sR ?_)
    refine oC ?_
    refine nC (JC.seq (sR ?_))
    refine oC ?_
    refine nC (JC.block ?_)
    refine JC.loop (ι := Nat × List Nat × Array Value) (fun x => Bx.WmP Bx.armD ip bs x.1 x.2.1 ∧ RdOk x.2.2 o (x.2.1 ++ bs.drop x.1) ∧ x.2.2.size = cs.size) (fun x => [(0, .pointer (some ⟨cb, 0, none⟩)), (1, .slice (some ⟨b, o, none⟩) l c), (2, .bool false), (7, .int .i64 (x.1 : Int))]) (fun x => [cel cb 141 #[.int .u32 (ip + x.1 + 4 : Nat)], cel b 5 x.2.2, F]) (fun x => l - x.1) (0, [], cs) ⟨Bx.WmP.zero, by simpa using hb, rfl⟩ xag xpkE ?_
    rintro ⟨i, out, cs'⟩ base' ⟨hW, hR, hz⟩
    dsimp only at hW hR hz ⊢
    have hmod := hW.mod
    have hle := hW.le
    refine JC.seq (sR ?_)
    refine oM ?_
    refine oM ?_
    refine JO.py (Py.lenS Tryz.underlying22 xe) ?_
    refine JO.py (Py.andM4 xe ev_const (by omega)) ?_
    by_cases h : i < l / 4 * 4
    · skip
      have h5 : i + 4 ≤ l := by omega
      obtain ⟨x0, e0⟩ : ∃ x, bs.getD (i + 0) 0 = x := ⟨_, rfl⟩
      obtain ⟨x1, e1⟩ : ∃ x, bs.getD (i + 1) 0 = x := ⟨_, rfl⟩
      obtain ⟨x2, e2⟩ : ∃ x, bs.getD (i + 2) 0 = x := ⟨_, rfl⟩
      obtain ⟨x3, e3⟩ : ∃ x, bs.getD (i + 3) 0 = x := ⟨_, rfl⟩
      have w0 := win (p := o + (i + 0)) hR hW.len (by omega) rfl e0
      have k0 : cs'[o + i + 0]? = some (vu8 x0) ∧ x0 < 256 := win hR hW.len (by omega) (by omega) e0
      obtain ⟨c0, l0⟩ := w0
      have w1 := win (p := o + (i + 1)) hR hW.len (by omega) rfl e1
      have k1 : cs'[o + i + 1]? = some (vu8 x1) ∧ x1 < 256 := win hR hW.len (by omega) (by omega) e1
      obtain ⟨c1, l1⟩ := w1
      have w2 := win (p := o + (i + 2)) hR hW.len (by omega) rfl e2
      have k2 : cs'[o + i + 2]? = some (vu8 x2) ∧ x2 < 256 := win hR hW.len (by omega) (by omega) e2
      obtain ⟨c2, l2⟩ := w2
      have w3 := win (p := o + (i + 3)) hR hW.len (by omega) rfl e3
      have k3 : cs'[o + i + 3]? = some (vu8 x3) ∧ x3 < 256 := win hR hW.len (by omega) (by omega) e3
      obtain ⟨c3, l3⟩ := w3
      have c00 : cs'[o + i]? = some (vu8 x0) := c0
      first | refine oD (Py.lss xe xe) ?_ | refine oU (Py.lss xe xe) ?_ | refine JO.py (Py.lss xe xe) ?_
      refine nC ?_
      refine cT ?_
      refine JC.skip (JX.code (JC.seq (JC.block (sR ?_))))
      refine oM ?_
      refine oM ?_
      refine JO.py (Py.slc (l := i) (h := l) (p := o + i) (q := l - i) (c := c - i) Tryz.underlying22 siz5 xe (Bd.some xe (by omega)) Bd.none (by omega) (by omega) (by omega) (by omega) (by omega) (by omega)) ?_
      refine JO.call (Evs.cons xe Evs.nil) (le32_con G b (o + i) (l - i) (c - i) 5 (0, 0) cs' x0 x1 x2 x3 (by omega) k0 k1 k2 k3) xpkE ?_
      rintro _
      show JO _ _ _ _ _ _ _ ((32, _) :: _) _ (_ :: _ :: _)
      have hwl := Bx.le_lt l0 l1 l2 l3
      obtain ⟨w, hw⟩ : ∃ w, Bx.le x0 x1 x2 x3 = w := ⟨_, rfl⟩
      rw [hw] at hwl ⊢
      refine oA ?_
      refine nC (sR ?_)
      refine oM ?_
      refine JO.py (Py.nil xe) ?_
      refine JO.py (Py.fld fld141_0 xe xoff) ?_
      refine JO.py (Py.load scal45 xe xpick xrow) ?_
      first | refine JO.py (Py.add xe ev_const (w_u32 (by omega))) ?_ | refine JO.py (Py.add xe ev_const (m_u32 _)) ?_
      refine JO.py (Py.nil xe) ?_
      refine JO.py (Py.fld fld141_0 xe xoff) ?_
      refine JO.store siz45 xe xe (by first | rfl | assumption) xpick xsize xnorm ?_
      refine nC (JC.seq (sR ?_))
      refine oM ?_
      refine oM ?_
      refine JO.py (Py.add xe ev_const wI) ?_
      refine JO.py (Py.idxS Tryz.underlying22 siz5 xe xe (by omega) xidx xmult) ?_
      refine JO.py (Py.load scal5 xe xpick xrow) ?_
      first | refine oD (Py.eql xe ev_const) ?_ | refine oU (Py.eql xe ev_const) ?_ | refine JO.py (Py.eql xe ev_const) ?_
      refine nC ?_
      by_cases hq : x3 = 235
      · skip
        refine cT ?_
        refine JC.seq (sR ?_)
        refine oM ?_
        refine nC ?_
        refine cF ?_
        obtain ⟨v1, hv1⟩ : ∃ v, (w + (4294967296 - (ip + i + 8) / 4 % 4294967296)) % 4294967296 = v := ⟨_, rfl⟩
        refine JC.region ?_
        refine oM ?_
        refine oM ?_
        refine JO.py (Py.nil xe) ?_
        refine JO.py (Py.fld fld141_0 xe xoff) ?_
        refine JO.py (Py.load scal45 xe xpick xrow) ?_
        refine JO.py (Py.shr 2 4 xe ev_const rfl (by decide) (by decide) (by decide)) ?_
        refine JO.py (Py.to (Py.sub xe xe (m_u32 _)) (v' := .int .u32 (v1 : Nat)) (vint (by omega))) ?_
        obtain ⟨z, hzz⟩ : ∃ z, v1 % 16777216 + 3942645760 = z := ⟨_, rfl⟩
        have hzl : z < 4294967296 := by omega
        refine oA ?_
        refine nC (sR ?_)
        refine oM ?_
        refine JO.py (Py.mask 24 16777216 xe ev_const (by decide) (by decide) (by decide) (r_u32 (by omega)) (w_u32 (by omega))) ?_
        refine oA ?_
        refine nC (JC.region ?_)
        refine oM ?_
        refine JO.py (Py.to (Py.orN xe ev_const (r_u32 (by omega)) (r_u32 (by omega)) (by decide)) (v' := .int .u32 (z : Nat)) (vint (or_int (x := v1 % 16777216) (y := 3942645760) (by omega) rfl ((or_lo (k := 24) (a := 235) (by omega) rfl).trans hzz)))) ?_
        have hy : Bx.armD (ip + i) (x0, x1, x2, x3) = Bx.unl z := by rw [← hzz]; exact Bx.arm_t hq (by rw [hw]; exact hv1.symm)
        have hW2 := hW.word (y := Bx.unl z) (by omega) (by rw [show bs.getD i 0 = x0 from e0, e1, e2, e3]; exact hy)
        have hR2 := put_ok (y0 := z / 1 % 256) (y1 := z / 256 % 256) (y2 := z / 65536 % 256) (y3 := z / 16777216 % 256) hR hW.len (by omega) (by omega) (by omega) (by omega) (by omega) (by omega)
        refine oA ?_
        refine nC (JC.region ?_)
        refine oM ?_
        refine oM ?_
        refine JO.py (Py.slc (l := i) (h := l) (p := o + i) (q := l - i) (c := c - i) Tryz.underlying22 siz5 xe (Bd.some xe (by omega)) Bd.none (by omega) (by omega) (by omega) (by omega) (by omega) (by omega)) ?_
        refine oM ?_
        refine JO.call (Evs.cons xe (Evs.cons xe Evs.nil)) (putLE_con G b (o + i) (l - i) (c - i) cs' (vu8 x3) z _ _ _ _ (by omega) (by omega) k3.1 hzl rfl rfl rfl rfl) xpkE ?_
        rintro _
        show JO _ _ _ _ _ _ _ ((69, _) :: _) _ (_ :: _ :: _)
        refine JO.nil (JX.blockN (JX.code (JC.region ?_)))
        refine oM ?_
        refine JO.py (Py.add xe ev_const wI) ?_
        refine oA ?_
        refine JO.nil ?_
        refine JX.loop (i + 4, out ++ [z / 1 % 256, z / 256 % 256, z / 65536 % 256, z / 16777216 % 256], ((((cs'.setIfInBounds (o + i + 0) (vu8 (z / 1 % 256))).setIfInBounds (o + i + 1) (vu8 (z / 256 % 256))).setIfInBounds (o + i + 2) (vu8 (z / 65536 % 256))).setIfInBounds (o + i + 3) (vu8 (z / 16777216 % 256)))) ⟨by dsimp only; rw [Nat.div_one]; exact hW2, hR2, by simp only [Array.size_setIfInBounds]; exact hz⟩ (by dsimp only; omega) xag xpkE
      · skip
        refine cF ?_
        refine JC.skip (JX.code (JC.region ?_))
        refine oM ?_
        refine oM ?_
        have hy : Bx.armD (ip + i) (x0, x1, x2, x3) = Bx.unl w := by rw [← hw, Bx.unl_le l0 l1 l2 l3]; exact Bx.arm_f hq
        have hW2 := hW.word (y := Bx.unl w) (by omega) (by rw [show bs.getD i 0 = x0 from e0, e1, e2, e3]; exact hy)
        have hR2 := put_ok (y0 := w / 1 % 256) (y1 := w / 256 % 256) (y2 := w / 65536 % 256) (y3 := w / 16777216 % 256) hR hW.len (by omega) (by omega) (by omega) (by omega) (by omega) (by omega)
        refine JO.py (Py.slc (l := i) (h := l) (p := o + i) (q := l - i) (c := c - i) Tryz.underlying22 siz5 xe (Bd.some xe (by omega)) Bd.none (by omega) (by omega) (by omega) (by omega) (by omega) (by omega)) ?_
        refine oM ?_
        refine JO.call (Evs.cons xe (Evs.cons xe Evs.nil)) (putLE_con G b (o + i) (l - i) (c - i) cs' (vu8 x3) w _ _ _ _ (by omega) (by omega) k3.1 hwl rfl rfl rfl rfl) xpkE ?_
        rintro _
        show JO _ _ _ _ _ _ _ ((69, _) :: _) _ (_ :: _ :: _)
        refine JO.nil (JX.blockN (JX.code (JC.region ?_)))
        refine oM ?_
        refine JO.py (Py.add xe ev_const wI) ?_
        refine oA ?_
        refine JO.nil ?_
        refine JX.loop (i + 4, out ++ [w / 1 % 256, w / 256 % 256, w / 65536 % 256, w / 16777216 % 256], ((((cs'.setIfInBounds (o + i + 0) (vu8 (w / 1 % 256))).setIfInBounds (o + i + 1) (vu8 (w / 256 % 256))).setIfInBounds (o + i + 2) (vu8 (w / 65536 % 256))).setIfInBounds (o + i + 3) (vu8 (w / 16777216 % 256)))) ⟨by dsimp only; rw [Nat.div_one]; exact hW2, hR2, by simp only [Array.size_setIfInBounds]; exact hz⟩ (by dsimp only; omega) xag xpkE
    · skip
      first | refine oD (Py.lss xe xe) ?_ | refine oU (Py.lss xe xe) ?_ | refine JO.py (Py.lss xe xe) ?_
      refine nC ?_
      refine cF ?_
      refine JC.exit (JX.exit (JX.exit (JX.blockE (JX.code (sR ?_)))))
      refine oM ?_
      refine oA ?_
      refine nC (JC.ret ?_)
      refine JX.end1 (Or.inl rfl) (⟨(i, out, cs'), hW, by dsimp only; omega, hR, hz⟩) Tryz.results266 ((xe).trans (by first | exact xval | (dsimp only; exact xval))) xpkE
  · skip
    rw [if_neg h0]
    refine JC.region ?_
    refine oM ?_
    refine JO.py (Py.nil xe) ?_
    refine JO.py (Py.fld fld141_0 xe xoff) ?_
    refine JO.py (Py.load scal45 xe xpick xrow) ?_
    first | refine oD (Py.eql xe ev_const) ?_ | refine oU (Py.eql xe ev_const) ?_ | refine JO.py (Py.eql xe ev_const) ?_
    refine nC ?_
    refine cF ?_
    refine JC.skip (JX.code (sR ?_))
    refine oC ?_
    refine nC (JC.seq (sR ?_))
    refine oC ?_
    refine nC (JC.block ?_)
    refine JC.loop (ι := Nat × List Nat × Array Value) (fun x => Bx.WmP Bx.armD ip bs x.1 x.2.1 ∧ RdOk x.2.2 o (x.2.1 ++ bs.drop x.1) ∧ x.2.2.size = cs.size) (fun x => [(0, .pointer (some ⟨cb, 0, none⟩)), (1, .slice (some ⟨b, o, none⟩) l c), (2, .bool false), (7, .int .i64 (x.1 : Int))]) (fun x => [cel cb 141 #[.int .u32 (ip + x.1 + 4 : Nat)], cel b 5 x.2.2, F]) (fun x => l - x.1) (0, [], cs) ⟨Bx.WmP.zero, by simpa using hb, rfl⟩ xag xpkE ?_
    rintro ⟨i, out, cs'⟩ base' ⟨hW, hR, hz⟩
    dsimp only at hW hR hz ⊢
    have hmod := hW.mod
    have hle := hW.le
    refine JC.seq (sR ?_)
    refine oM ?_
    refine oM ?_
    refine JO.py (Py.lenS Tryz.underlying22 xe) ?_
    refine JO.py (Py.andM4 xe ev_const (by omega)) ?_
    by_cases h : i < l / 4 * 4
    · skip
      have h5 : i + 4 ≤ l := by omega
      obtain ⟨x0, e0⟩ : ∃ x, bs.getD (i + 0) 0 = x := ⟨_, rfl⟩
      obtain ⟨x1, e1⟩ : ∃ x, bs.getD (i + 1) 0 = x := ⟨_, rfl⟩
      obtain ⟨x2, e2⟩ : ∃ x, bs.getD (i + 2) 0 = x := ⟨_, rfl⟩
      obtain ⟨x3, e3⟩ : ∃ x, bs.getD (i + 3) 0 = x := ⟨_, rfl⟩
      have w0 := win (p := o + (i + 0)) hR hW.len (by omega) rfl e0
      have k0 : cs'[o + i + 0]? = some (vu8 x0) ∧ x0 < 256 := win hR hW.len (by omega) (by omega) e0
      obtain ⟨c0, l0⟩ := w0
      have w1 := win (p := o + (i + 1)) hR hW.len (by omega) rfl e1
      have k1 : cs'[o + i + 1]? = some (vu8 x1) ∧ x1 < 256 := win hR hW.len (by omega) (by omega) e1
      obtain ⟨c1, l1⟩ := w1
      have w2 := win (p := o + (i + 2)) hR hW.len (by omega) rfl e2
      have k2 : cs'[o + i + 2]? = some (vu8 x2) ∧ x2 < 256 := win hR hW.len (by omega) (by omega) e2
      obtain ⟨c2, l2⟩ := w2
      have w3 := win (p := o + (i + 3)) hR hW.len (by omega) rfl e3
      have k3 : cs'[o + i + 3]? = some (vu8 x3) ∧ x3 < 256 := win hR hW.len (by omega) (by omega) e3
      obtain ⟨c3, l3⟩ := w3
      have c00 : cs'[o + i]? = some (vu8 x0) := c0
      first | refine oD (Py.lss xe xe) ?_ | refine oU (Py.lss xe xe) ?_ | refine JO.py (Py.lss xe xe) ?_
      refine nC ?_
      refine cT ?_
      refine JC.skip (JX.code (JC.seq (JC.block (sR ?_))))
      refine oM ?_
      refine oM ?_
      refine JO.py (Py.slc (l := i) (h := l) (p := o + i) (q := l - i) (c := c - i) Tryz.underlying22 siz5 xe (Bd.some xe (by omega)) Bd.none (by omega) (by omega) (by omega) (by omega) (by omega) (by omega)) ?_
      refine JO.call (Evs.cons xe Evs.nil) (le32_con G b (o + i) (l - i) (c - i) 5 (0, 0) cs' x0 x1 x2 x3 (by omega) k0 k1 k2 k3) xpkE ?_
      rintro _
      show JO _ _ _ _ _ _ _ ((32, _) :: _) _ (_ :: _ :: _)
      have hwl := Bx.le_lt l0 l1 l2 l3
      obtain ⟨w, hw⟩ : ∃ w, Bx.le x0 x1 x2 x3 = w := ⟨_, rfl⟩
      rw [hw] at hwl ⊢
      refine oA ?_
      refine nC (sR ?_)
      refine oM ?_
      refine JO.py (Py.nil xe) ?_
      refine JO.py (Py.fld fld141_0 xe xoff) ?_
      refine JO.py (Py.load scal45 xe xpick xrow) ?_
      first | refine JO.py (Py.add xe ev_const (w_u32 (by omega))) ?_ | refine JO.py (Py.add xe ev_const (m_u32 _)) ?_
      refine JO.py (Py.nil xe) ?_
      refine JO.py (Py.fld fld141_0 xe xoff) ?_
      refine JO.store siz45 xe xe (by first | rfl | assumption) xpick xsize xnorm ?_
      refine nC (JC.seq (sR ?_))
      refine oM ?_
      refine oM ?_
      refine JO.py (Py.add xe ev_const wI) ?_
      refine JO.py (Py.idxS Tryz.underlying22 siz5 xe xe (by omega) xidx xmult) ?_
      refine JO.py (Py.load scal5 xe xpick xrow) ?_
      first | refine oD (Py.eql xe ev_const) ?_ | refine oU (Py.eql xe ev_const) ?_ | refine JO.py (Py.eql xe ev_const) ?_
      refine nC ?_
      by_cases hq : x3 = 235
      · skip
        refine cT ?_
        refine JC.seq (sR ?_)
        refine oM ?_
        refine nC ?_
        refine cF ?_
        obtain ⟨v1, hv1⟩ : ∃ v, (w + (4294967296 - (ip + i + 8) / 4 % 4294967296)) % 4294967296 = v := ⟨_, rfl⟩
        refine JC.region ?_
        refine oM ?_
        refine oM ?_
        refine JO.py (Py.nil xe) ?_
        refine JO.py (Py.fld fld141_0 xe xoff) ?_
        refine JO.py (Py.load scal45 xe xpick xrow) ?_
        refine JO.py (Py.shr 2 4 xe ev_const rfl (by decide) (by decide) (by decide)) ?_
        refine JO.py (Py.to (Py.sub xe xe (m_u32 _)) (v' := .int .u32 (v1 : Nat)) (vint (by omega))) ?_
        obtain ⟨z, hzz⟩ : ∃ z, v1 % 16777216 + 3942645760 = z := ⟨_, rfl⟩
        have hzl : z < 4294967296 := by omega
        refine oA ?_
        refine nC (sR ?_)
        refine oM ?_
        refine JO.py (Py.mask 24 16777216 xe ev_const (by decide) (by decide) (by decide) (r_u32 (by omega)) (w_u32 (by omega))) ?_
        refine oA ?_
        refine nC (JC.region ?_)
        refine oM ?_
        refine JO.py (Py.to (Py.orN xe ev_const (r_u32 (by omega)) (r_u32 (by omega)) (by decide)) (v' := .int .u32 (z : Nat)) (vint (or_int (x := v1 % 16777216) (y := 3942645760) (by omega) rfl ((or_lo (k := 24) (a := 235) (by omega) rfl).trans hzz)))) ?_
        have hy : Bx.armD (ip + i) (x0, x1, x2, x3) = Bx.unl z := by rw [← hzz]; exact Bx.arm_t hq (by rw [hw]; exact hv1.symm)
        have hW2 := hW.word (y := Bx.unl z) (by omega) (by rw [show bs.getD i 0 = x0 from e0, e1, e2, e3]; exact hy)
        have hR2 := put_ok (y0 := z / 1 % 256) (y1 := z / 256 % 256) (y2 := z / 65536 % 256) (y3 := z / 16777216 % 256) hR hW.len (by omega) (by omega) (by omega) (by omega) (by omega) (by omega)
        refine oA ?_
        refine nC (JC.region ?_)
        refine oM ?_
        refine oM ?_
        refine JO.py (Py.slc (l := i) (h := l) (p := o + i) (q := l - i) (c := c - i) Tryz.underlying22 siz5 xe (Bd.some xe (by omega)) Bd.none (by omega) (by omega) (by omega) (by omega) (by omega) (by omega)) ?_
        refine oM ?_
        refine JO.call (Evs.cons xe (Evs.cons xe Evs.nil)) (putLE_con G b (o + i) (l - i) (c - i) cs' (vu8 x3) z _ _ _ _ (by omega) (by omega) k3.1 hzl rfl rfl rfl rfl) xpkE ?_
        rintro _
        show JO _ _ _ _ _ _ _ ((69, _) :: _) _ (_ :: _ :: _)
        refine JO.nil (JX.blockN (JX.code (JC.region ?_)))
        refine oM ?_
        refine JO.py (Py.add xe ev_const wI) ?_
        refine oA ?_
        refine JO.nil ?_
        refine JX.loop (i + 4, out ++ [z / 1 % 256, z / 256 % 256, z / 65536 % 256, z / 16777216 % 256], ((((cs'.setIfInBounds (o + i + 0) (vu8 (z / 1 % 256))).setIfInBounds (o + i + 1) (vu8 (z / 256 % 256))).setIfInBounds (o + i + 2) (vu8 (z / 65536 % 256))).setIfInBounds (o + i + 3) (vu8 (z / 16777216 % 256)))) ⟨by dsimp only; rw [Nat.div_one]; exact hW2, hR2, by simp only [Array.size_setIfInBounds]; exact hz⟩ (by dsimp only; omega) xag xpkE
      · skip
        refine cF ?_
        refine JC.skip (JX.code (JC.region ?_))
        refine oM ?_
        refine oM ?_
        have hy : Bx.armD (ip + i) (x0, x1, x2, x3) = Bx.unl w := by rw [← hw, Bx.unl_le l0 l1 l2 l3]; exact Bx.arm_f hq
        have hW2 := hW.word (y := Bx.unl w) (by omega) (by rw [show bs.getD i 0 = x0 from e0, e1, e2, e3]; exact hy)
        have hR2 := put_ok (y0 := w / 1 % 256) (y1 := w / 256 % 256) (y2 := w / 65536 % 256) (y3 := w / 16777216 % 256) hR hW.len (by omega) (by omega) (by omega) (by omega) (by omega) (by omega)
        refine JO.py (Py.slc (l := i) (h := l) (p := o + i) (q := l - i) (c := c - i) Tryz.underlying22 siz5 xe (Bd.some xe (by omega)) Bd.none (by omega) (by omega) (by omega) (by omega) (by omega) (by omega)) ?_
        refine oM ?_
        refine JO.call (Evs.cons xe (Evs.cons xe Evs.nil)) (putLE_con G b (o + i) (l - i) (c - i) cs' (vu8 x3) w _ _ _ _ (by omega) (by omega) k3.1 hwl rfl rfl rfl rfl) xpkE ?_
        rintro _
        show JO _ _ _ _ _ _ _ ((69, _) :: _) _ (_ :: _ :: _)
        refine JO.nil (JX.blockN (JX.code (JC.region ?_)))
        refine oM ?_
        refine JO.py (Py.add xe ev_const wI) ?_
        refine oA ?_
        refine JO.nil ?_
        refine JX.loop (i + 4, out ++ [w / 1 % 256, w / 256 % 256, w / 65536 % 256, w / 16777216 % 256], ((((cs'.setIfInBounds (o + i + 0) (vu8 (w / 1 % 256))).setIfInBounds (o + i + 1) (vu8 (w / 256 % 256))).setIfInBounds (o + i + 2) (vu8 (w / 65536 % 256))).setIfInBounds (o + i + 3) (vu8 (w / 16777216 % 256)))) ⟨by dsimp only; rw [Nat.div_one]; exact hW2, hR2, by simp only [Array.size_setIfInBounds]; exact hz⟩ (by dsimp only; omega) xag xpkE
    · skip
      first | refine oD (Py.lss xe xe) ?_ | refine oU (Py.lss xe xe) ?_ | refine JO.py (Py.lss xe xe) ?_
      refine nC ?_
      refine cF ?_
      refine JC.exit (JX.exit (JX.exit (JX.blockE (JX.code (sR ?_)))))
      refine oM ?_
      refine oA ?_
      refine nC (JC.ret ?_)
      refine JX.end1 (Or.inl rfl) (⟨(i, out, cs'), hW, by dsimp only; omega, hR, hz⟩) Tryz.results266 ((xe).trans (by first | exact xval | (dsimp only; exact xval))) xpkE
set_option maxRecDepth 100000 in
set_option maxHeartbeats 4000000 in
theorem spConv_con (G : Gst) (cb ip b o l c : Nat) (cs : Array Value) (bs : List Nat) (hb : RdOk cs o bs) (hl : bs.length = l) (hs : o + l ≤ cs.size) (h4 : 4 ≤ l) (hc : l ≤ c) (hip : ip % 4 = 0 ∧ ip + l ≤ 100000) :
    Con Tryz.prog G 267 #[.pointer (some ⟨cb, 0, none⟩), .slice (some ⟨b, o, none⟩) l c, .bool false] [cel cb 143 #[.int .u32 (ip : Nat)], cel b 5 cs] (fun x : {x : Nat × List Nat × Array Value // Bx.WmP Bx.spD ip bs x.1 x.2.1 ∧ l < x.1 + 4 ∧ RdOk x.2.2 o (x.2.1 ++ bs.drop x.1) ∧ x.2.2.size = cs.size} => .int .i64 (x.1.1 : Nat))
      (fun x => [cel cb 143 #[.int .u32 (ip + x.1.1 : Nat)], cel b 5 x.1.2.2]) := by
  refine Con.intro Tryz.func267 rfl (by kernel_rfl) Tryz.ntmps267 (Nat.le_of_ble_eq_true rfl) ?_
  intro F
  show JC _ _ _ _ _ _ [(0, _), (1, _), (2, _)] _ [_, _, _]
  refine sR ?_
  refine oC ?_
  refine nC (JC.seq (sR ?_))
  refine oM ?_
  refine JO.py (Py.lenS Tryz.underlying22 xe) ?_
  refine oM ?_
  refine JO.call (Evs.cons xe Evs.nil) (size4_205 G (.pointer (some ⟨cb, 0, none⟩)) (cel cb 143 #[.int .u32 (ip : Nat)])) xpkE ?_
  rintro _
  show JO _ _ _ _ _ _ _ ((12, _) :: _) _ (_ :: _ :: _)
  first | refine oD (Py.lss xe xe) ?_ | refine oU (Py.lss xe xe) ?_ | refine JO.py (Py.lss xe xe) ?_
  refine nC ?_
  refine cF ?_
  refine JC.skip (JX.code (sR ?_))
  refine oC ?_
  refine nC (JC.seq (sR ?_))
  refine oC ?_
  refine nC (JC.block ?_)
  refine JC.loop (ι := Nat × List Nat × Array Value) (fun x => Bx.WmP Bx.spD ip bs x.1 x.2.1 ∧ RdOk x.2.2 o (x.2.1 ++ bs.drop x.1) ∧ x.2.2.size = cs.size) (fun x => [(0, .pointer (some ⟨cb, 0, none⟩)), (1, .slice (some ⟨b, o, none⟩) l c), (2, .bool false), (7, .int .i64 (x.1 : Int))]) (fun x => [cel cb 143 #[.int .u32 (ip + x.1 : Nat)], cel b 5 x.2.2, F]) (fun x => l - x.1) (0, [], cs) ⟨Bx.WmP.zero, by simpa using hb, rfl⟩ xag xpkE ?_
  rintro ⟨i, out, cs'⟩ base' ⟨hW, hR, hz⟩
  dsimp only at hW hR hz ⊢
  have hmod := hW.mod
  have hle := hW.le
  refine JC.seq (sR ?_)
  refine oM ?_
  refine oM ?_
  refine JO.py (Py.lenS Tryz.underlying22 xe) ?_
  refine JO.py (Py.andM4 xe ev_const (by omega)) ?_
  by_cases h : i < l / 4 * 4
  · skip
    have h5 : i + 4 ≤ l := by omega
    obtain ⟨x0, e0⟩ : ∃ x, bs.getD (i + 0) 0 = x := ⟨_, rfl⟩
    obtain ⟨x1, e1⟩ : ∃ x, bs.getD (i + 1) 0 = x := ⟨_, rfl⟩
    obtain ⟨x2, e2⟩ : ∃ x, bs.getD (i + 2) 0 = x := ⟨_, rfl⟩
    obtain ⟨x3, e3⟩ : ∃ x, bs.getD (i + 3) 0 = x := ⟨_, rfl⟩
    have w0 := win (p := o + (i + 0)) hR hW.len (by omega) rfl e0
    have k0 : cs'[o + i + 0]? = some (vu8 x0) ∧ x0 < 256 := win hR hW.len (by omega) (by omega) e0
    obtain ⟨c0, l0⟩ := w0
    have w1 := win (p := o + (i + 1)) hR hW.len (by omega) rfl e1
    have k1 : cs'[o + i + 1]? = some (vu8 x1) ∧ x1 < 256 := win hR hW.len (by omega) (by omega) e1
    obtain ⟨c1, l1⟩ := w1
    have w2 := win (p := o + (i + 2)) hR hW.len (by omega) rfl e2
    have k2 : cs'[o + i + 2]? = some (vu8 x2) ∧ x2 < 256 := win hR hW.len (by omega) (by omega) e2
    obtain ⟨c2, l2⟩ := w2
    have w3 := win (p := o + (i + 3)) hR hW.len (by omega) rfl e3
    have k3 : cs'[o + i + 3]? = some (vu8 x3) ∧ x3 < 256 := win hR hW.len (by omega) (by omega) e3
    obtain ⟨c3, l3⟩ := w3
    have c00 : cs'[o + i]? = some (vu8 x0) := c0
    first | refine oD (Py.lss xe xe) ?_ | refine oU (Py.lss xe xe) ?_ | refine JO.py (Py.lss xe xe) ?_
    refine nC ?_
    refine cT ?_
    refine JC.skip (JX.code (JC.seq (JC.block (sR ?_))))
    refine oM ?_
    refine oM ?_
    refine JO.py (Py.slc (l := i) (h := l) (p := o + i) (q := l - i) (c := c - i) Tryz.underlying22 siz5 xe (Bd.some xe (by omega)) Bd.none (by omega) (by omega) (by omega) (by omega) (by omega) (by omega)) ?_
    refine JO.call (Evs.cons xe Evs.nil) (be32_con G b (o + i) (l - i) (c - i) 5 (0, 0) cs' x0 x1 x2 x3 (by omega) k0 k1 k2 k3) xpkE ?_
    rintro _
    show JO _ _ _ _ _ _ _ ((32, _) :: _) _ (_ :: _ :: _)
    have hwl := Bx.be_lt l0 l1 l2 l3
    obtain ⟨w, hw⟩ : ∃ w, Bx.be (x0, x1, x2, x3) = w := ⟨_, rfl⟩
    rw [hw] at hwl ⊢
    have hz0 := and_192 x1 l1
    obtain ⟨z0, ez0⟩ : ∃ z, x1 &&& 192 = z := ⟨_, rfl⟩
    rw [ez0] at hz0
    refine oA ?_
    refine nC (JC.seq (sR ?_))
    refine oM ?_
    refine oM ?_
    refine JO.py (Py.add xe ev_const wI) ?_
    refine JO.py (Py.idxS (j := i) Tryz.underlying22 siz5 xe xe (by omega) (by omega) xmult) ?_
    by_cases q0 : x0 = 64
    · skip
      refine JO.py (Py.load scal5 xe xpick xrow) ?_
      first | refine oD (Py.eql xe ev_const) ?_ | refine oU (Py.eql xe ev_const) ?_ | refine JO.py (Py.eql xe ev_const) ?_
      refine oM ?_
      first | (refine gT ?_; (refine oM ?_)) | refine kF ?_ | refine JO.skipU rfl (Lk.ev (v := undef) xlk rfl) ?_
      first | (refine gT ?_; (refine oM ?_)) | refine kF ?_ | refine JO.skipU rfl (Lk.ev (v := undef) xlk rfl) ?_
      first | (refine gT ?_; (refine JO.py (Py.add xe ev_const wI) ?_)) | refine kF ?_ | refine JO.skipU rfl (Lk.ev (v := undef) xlk rfl) ?_
      first | (refine gT ?_; (refine JO.py (Py.idxS Tryz.underlying22 siz5 xe xe (by omega) xidx xmult) ?_)) | refine kF ?_ | refine JO.skipU rfl (Lk.ev (v := undef) xlk rfl) ?_
      first | (refine gT ?_; (refine JO.py (Py.load scal5 xe xpick xrow) ?_)) | refine kF ?_ | refine JO.skipU rfl (Lk.ev (v := undef) xlk rfl) ?_
      refine gT ?_
      refine JO.py (Py.to (Py.andN xe ev_const (r_u8 (by omega)) (r_u8 (by omega)) (by decide)) (v' := .int .u8 (z0 : Nat)) (vint (by rw [← ez0]; rfl))) ?_
      by_cases q1 : x1 < 64
      · skip
        have q2 := hz0.2 q1
        have hq : (x0 = 64 ∧ x1 < 64) ∨ (x0 = 127 ∧ 192 ≤ x1) := .inl ⟨q0, q1⟩
        first | (refine gT ?_; (first | refine oD (Py.eql xe ev_const) ?_ | refine oU (Py.eql xe ev_const) ?_ | refine JO.py (Py.eql xe ev_const) ?_)) | refine kF ?_ | refine JO.skipU rfl (Lk.ev (v := undef) xlk rfl) ?_
        first | refine JO.py (Py.pickT xe xe) ?_ | refine JO.py (Py.pickF xe ev_const) ?_
        refine oM ?_
        first | (refine gF ?_; (refine oM ?_)) | refine kT ?_ | refine JO.skipU rfl (Lk.ev (v := undef) xlk rfl) ?_
        first | (refine gF ?_; (refine oM ?_)) | refine kT ?_ | refine JO.skipU rfl (Lk.ev (v := undef) xlk rfl) ?_
        first | (refine gF ?_; (refine JO.py (Py.add xe ev_const wI) ?_)) | refine kT ?_ | refine JO.skipU rfl (Lk.ev (v := undef) xlk rfl) ?_
        first | (refine gF ?_; (refine JO.py (Py.idxS Tryz.underlying22 siz5 xe xe (by omega) xidx xmult) ?_)) | refine kT ?_ | refine JO.skipU rfl (Lk.ev (v := undef) xlk rfl) ?_
        first | (refine gF ?_; (refine JO.py (Py.load scal5 xe xpick xrow) ?_)) | refine kT ?_ | refine JO.skipU rfl (Lk.ev (v := undef) xlk rfl) ?_
        first | (refine gF ?_; (first | refine oD (Py.eql xe ev_const) ?_ | refine oU (Py.eql xe ev_const) ?_ | refine JO.py (Py.eql xe ev_const) ?_)) | refine kT ?_ | refine JO.skipU rfl (Lk.ev (v := undef) xlk rfl) ?_
        first | (refine gF ?_; (refine oM ?_)) | refine kT ?_ | refine JO.skipU rfl (Lk.ev (v := undef) xlk rfl) ?_
        first | (refine gT ?_; (refine oM ?_)) | refine kF ?_ | refine JO.skipU rfl (Lk.ev (v := undef) xlk rfl) ?_
        first | (refine gT ?_; (refine oM ?_)) | refine kF ?_ | refine JO.skipU rfl (Lk.ev (v := undef) xlk rfl) ?_
        first | (refine gT ?_; (refine JO.py (Py.add xe ev_const wI) ?_)) | refine kF ?_ | refine JO.skipU rfl (Lk.ev (v := undef) xlk rfl) ?_
        first | (refine gT ?_; (refine JO.py (Py.idxS Tryz.underlying22 siz5 xe xe (by omega) xidx xmult) ?_)) | refine kF ?_ | refine JO.skipU rfl (Lk.ev (v := undef) xlk rfl) ?_
        first | (refine gT ?_; (refine JO.py (Py.load scal5 xe xpick xrow) ?_)) | refine kF ?_ | refine JO.skipU rfl (Lk.ev (v := undef) xlk rfl) ?_
        first | (refine gT ?_; (first | refine oD (Py.geq xe ev_const) ?_ | refine oU (Py.geq xe ev_const) ?_ | refine JO.py (Py.geq xe ev_const) ?_)) | refine kF ?_ | refine JO.skipU rfl (Lk.ev (v := undef) xlk rfl) ?_
        first | (refine gF ?_; (first | refine JO.py (Py.pickT xe xe) ?_ | refine JO.py (Py.pickF xe ev_const) ?_)) | refine kT ?_ | refine JO.skipU rfl (Lk.ev (v := undef) xlk rfl) ?_
        first | refine JO.py (Py.pickT xe ev_const) ?_ | refine JO.py (Py.pickF xe xe) ?_
        refine nC ?_
        refine cT ?_
        refine sR ?_
        refine oM ?_
        first | refine JO.py (Py.shl 2 4 xe ev_const rfl (by decide) (by decide) (w_u32 (by omega))) ?_ | refine JO.py (Py.shl 2 4 xe ev_const rfl (by decide) (by decide) (m_u32 _)) ?_
        refine oA ?_
        refine nC (JC.seq (sR ?_))
        refine oM ?_
        refine nC ?_
        refine cF ?_
        obtain ⟨v1, hv1⟩ : ∃ v, (w * 4 + (4294967296 - (ip + i) % 4294967296)) % 4294967296 = v := ⟨_, rfl⟩
        refine JC.region ?_
        refine oM ?_
        refine oM ?_
        refine JO.py (Py.nil xe) ?_
        refine JO.py (Py.fld fld143_0 xe xoff) ?_
        refine JO.py (Py.load scal45 xe xpick xrow) ?_
        refine JO.py (Py.to (Py.sub xe xe (m_u32 _)) (v' := .int .u32 (v1 : Nat)) (vint (by omega))) ?_
        obtain ⟨u, hu⟩ : ∃ u, v1 % 33554432 = u := ⟨_, rfl⟩
        obtain ⟨v2, hv2⟩ : ∃ v, (u + 4278190080) % 4294967296 = v := ⟨_, rfl⟩
        have hx := Bx.sp_x (by omega) hv2.symm
        obtain ⟨v3, hv3⟩ : ∃ v, Bx.spV u = v := ⟨_, rfl⟩
        have hv3l : v3 < 4294967296 := by rw [← hv3]; unfold Bx.spV; split <;> omega
        rw [hv3] at hx
        refine oA ?_
        refine nC (sR ?_)
        refine oM ?_
        refine JO.py (Py.mask 25 33554432 xe ev_const (by decide) (by decide) (by decide) (r_u32 (by omega)) (w_u32 (by omega))) ?_
        refine oA ?_
        refine nC (sR ?_)
        refine oM ?_
        refine JO.py (Py.to (Py.sub xe ev_const (m_u32 _)) (v' := .int .u32 (v2 : Nat)) (vint (by omega))) ?_
        refine oA ?_
        refine nC (sR ?_)
        refine oM ?_
        refine JO.py (Py.to (Py.xorN xe ev_const (r_u32 (by omega)) (r_u32 (by omega)) (by decide)) (v' := .int .u32 (v3 : Nat)) (vint (by rw [← hx]; rfl))) ?_
        obtain ⟨z, hzz⟩ : ∃ z, v3 / 4 + 1073741824 = z := ⟨_, rfl⟩
        have hzl : z < 4294967296 := by omega
        refine oA ?_
        refine nC (sR ?_)
        refine oM ?_
        refine JO.py (Py.shr 2 4 xe ev_const rfl (by decide) (by decide) (by decide)) ?_
        refine oA ?_
        refine nC (JC.region ?_)
        refine oM ?_
        refine JO.py (Py.to (Py.orN xe ev_const (r_u32 (by omega)) (r_u32 (by omega)) (by decide)) (v' := .int .u32 (z : Nat)) (vint (or_int (x := v3 / 4) (y := 1073741824) (by omega) rfl ((or_lo (k := 30) (a := 1) (by omega) rfl).trans hzz)))) ?_
        have hy : Bx.spD (ip + i) (x0, x1, x2, x3) = Bx.un z := by rw [← hzz, ← hv3, ← hu]; exact Bx.sp_t hq (by omega) (by rw [hw]; exact hv1.symm)
        have hW2 := hW.word (y := Bx.un z) (by omega) (by rw [show bs.getD i 0 = x0 from e0, e1, e2, e3]; exact hy)
        have hR2 := put_ok (y0 := z / 16777216 % 256) (y1 := z / 65536 % 256) (y2 := z / 256 % 256) (y3 := z / 1 % 256) hR hW.len (by omega) (by omega) (by omega) (by omega) (by omega) (by omega)
        refine oA ?_
        refine nC (JC.region ?_)
        refine oM ?_
        refine oM ?_
        refine JO.py (Py.slc (l := i) (h := l) (p := o + i) (q := l - i) (c := c - i) Tryz.underlying22 siz5 xe (Bd.some xe (by omega)) Bd.none (by omega) (by omega) (by omega) (by omega) (by omega) (by omega)) ?_
        refine oM ?_
        refine JO.call (Evs.cons xe (Evs.cons xe Evs.nil)) (putBE_con G b (o + i) (l - i) (c - i) cs' (vu8 x3) z _ _ _ _ (by omega) (by omega) k3.1 hzl rfl rfl rfl rfl) xpkE ?_
        rintro _
        show JO _ _ _ _ _ _ _ ((93, _) :: _) _ (_ :: _ :: _)
        refine JO.nil (JX.blockN (JX.code ?_))
        refine JC.regionM [(0, true), (1, true), (2, true), (3, true), (4, true), (5, true), (6, true), (7, true), (8, true), (9, true), (10, true), (11, false)] mixed (by kernel_rfl) ?_
        refine JM.py ao ⟨fun _ => Py.move xe⟩ ?_
        refine JM.py ao ⟨fun _ => Py.move xe⟩ ?_
        refine JM.py ao ⟨fun _ => Py.add xe ev_const wI⟩ ?_
        refine JM.py ao ⟨fun _ => Py.move xe⟩ ?_
        refine JM.py ao ⟨fun _ => Py.nil xe⟩ ?_
        refine JM.py ao ⟨fun _ => Py.fld fld143_0 xe xoff⟩ ?_
        refine JM.ld ao scal45 xe xpick xrow ?_
        first | refine JM.py ao ⟨fun _ => Py.add xe ev_const (w_u32 (by omega))⟩ ?_ | refine JM.py ao ⟨fun _ => Py.add xe ev_const (m_u32 _)⟩ ?_
        refine JM.py ao ⟨fun _ => Py.assign xe⟩ ?_
        refine JM.py ao ⟨fun _ => Py.nil xe⟩ ?_
        refine JM.py ao ⟨fun _ => Py.fld fld143_0 xe xoff⟩ ?_
        refine JM.eff ao ?_
        refine JO.store siz45 xe xe (by first | rfl | assumption) xpick xsize xnorm ?_
        refine JO.nil ?_
        refine JX.mix (Kept.drop (Forced.step (by kernel_rfl)) Kept.nil) ?_
        refine JM.nil ?_
        refine JX.loop (i + 4, out ++ [z / 16777216 % 256, z / 65536 % 256, z / 256 % 256, z / 1 % 256], ((((cs'.setIfInBounds (o + i + 0) (vu8 (z / 16777216 % 256))).setIfInBounds (o + i + 1) (vu8 (z / 65536 % 256))).setIfInBounds (o + i + 2) (vu8 (z / 256 % 256))).setIfInBounds (o + i + 3) (vu8 (z / 1 % 256)))) ⟨by dsimp only; rw [Nat.div_one]; exact hW2, hR2, by simp only [Array.size_setIfInBounds]; exact hz⟩ (by dsimp only; omega) xag xpkE
      · skip
        have q2 : ¬ z0 = 0 := fun q => q1 (hz0.1 q)
        have hq : ¬ ((x0 = 64 ∧ x1 < 64) ∨ (x0 = 127 ∧ 192 ≤ x1)) := by omega
        first | (refine gT ?_; (first | refine oD (Py.eql xe ev_const) ?_ | refine oU (Py.eql xe ev_const) ?_ | refine JO.py (Py.eql xe ev_const) ?_)) | refine kF ?_ | refine JO.skipU rfl (Lk.ev (v := undef) xlk rfl) ?_
        first | refine JO.py (Py.pickT xe xe) ?_ | refine JO.py (Py.pickF xe ev_const) ?_
        refine oM ?_
        first | (refine gF ?_; (refine oM ?_)) | refine kT ?_ | refine JO.skipU rfl (Lk.ev (v := undef) xlk rfl) ?_
        first | (refine gF ?_; (refine oM ?_)) | refine kT ?_ | refine JO.skipU rfl (Lk.ev (v := undef) xlk rfl) ?_
        first | (refine gF ?_; (refine JO.py (Py.add xe ev_const wI) ?_)) | refine kT ?_ | refine JO.skipU rfl (Lk.ev (v := undef) xlk rfl) ?_
        first | (refine gF ?_; (refine JO.py (Py.idxS Tryz.underlying22 siz5 xe xe (by omega) xidx xmult) ?_)) | refine kT ?_ | refine JO.skipU rfl (Lk.ev (v := undef) xlk rfl) ?_
        first | (refine gF ?_; (refine JO.py (Py.load scal5 xe xpick xrow) ?_)) | refine kT ?_ | refine JO.skipU rfl (Lk.ev (v := undef) xlk rfl) ?_
        first | (refine gF ?_; (first | refine oD (Py.eql xe ev_const) ?_ | refine oU (Py.eql xe ev_const) ?_ | refine JO.py (Py.eql xe ev_const) ?_)) | refine kT ?_ | refine JO.skipU rfl (Lk.ev (v := undef) xlk rfl) ?_
        first | (refine gF ?_; (refine oM ?_)) | refine kT ?_ | refine JO.skipU rfl (Lk.ev (v := undef) xlk rfl) ?_
        first | (refine gT ?_; (refine oM ?_)) | refine kF ?_ | refine JO.skipU rfl (Lk.ev (v := undef) xlk rfl) ?_
        first | (refine gT ?_; (refine oM ?_)) | refine kF ?_ | refine JO.skipU rfl (Lk.ev (v := undef) xlk rfl) ?_
        first | (refine gT ?_; (refine JO.py (Py.add xe ev_const wI) ?_)) | refine kF ?_ | refine JO.skipU rfl (Lk.ev (v := undef) xlk rfl) ?_
        first | (refine gT ?_; (refine JO.py (Py.idxS Tryz.underlying22 siz5 xe xe (by omega) xidx xmult) ?_)) | refine kF ?_ | refine JO.skipU rfl (Lk.ev (v := undef) xlk rfl) ?_
        first | (refine gT ?_; (refine JO.py (Py.load scal5 xe xpick xrow) ?_)) | refine kF ?_ | refine JO.skipU rfl (Lk.ev (v := undef) xlk rfl) ?_
        first | (refine gT ?_; (first | refine oD (Py.geq xe ev_const) ?_ | refine oU (Py.geq xe ev_const) ?_ | refine JO.py (Py.geq xe ev_const) ?_)) | refine kF ?_ | refine JO.skipU rfl (Lk.ev (v := undef) xlk rfl) ?_
        first | (refine gF ?_; (first | refine JO.py (Py.pickT xe xe) ?_ | refine JO.py (Py.pickF xe ev_const) ?_)) | refine kT ?_ | refine JO.skipU rfl (Lk.ev (v := undef) xlk rfl) ?_
        first | refine JO.py (Py.pickT xe ev_const) ?_ | refine JO.py (Py.pickF xe xe) ?_
        refine nC ?_
        refine cF ?_
        refine JC.skip (JX.code (JC.region ?_))
        refine oM ?_
        refine oM ?_
        have hy : Bx.spD (ip + i) (x0, x1, x2, x3) = Bx.un w := by rw [← hw, Bx.un_be l0 l1 l2 l3]; exact Bx.sp_f hq
        have hW2 := hW.word (y := Bx.un w) (by omega) (by rw [show bs.getD i 0 = x0 from e0, e1, e2, e3]; exact hy)
        have hR2 := put_ok (y0 := w / 16777216 % 256) (y1 := w / 65536 % 256) (y2 := w / 256 % 256) (y3 := w / 1 % 256) hR hW.len (by omega) (by omega) (by omega) (by omega) (by omega) (by omega)
        refine JO.py (Py.slc (l := i) (h := l) (p := o + i) (q := l - i) (c := c - i) Tryz.underlying22 siz5 xe (Bd.some xe (by omega)) Bd.none (by omega) (by omega) (by omega) (by omega) (by omega) (by omega)) ?_
        refine oM ?_
        refine JO.call (Evs.cons xe (Evs.cons xe Evs.nil)) (putBE_con G b (o + i) (l - i) (c - i) cs' (vu8 x3) w _ _ _ _ (by omega) (by omega) k3.1 hwl rfl rfl rfl rfl) xpkE ?_
        rintro _
        show JO _ _ _ _ _ _ _ ((93, _) :: _) _ (_ :: _ :: _)
        refine JO.nil (JX.blockN (JX.code ?_))
        refine JC.regionM [(0, true), (1, true), (2, true), (3, true), (4, true), (5, true), (6, true), (7, true), (8, true), (9, true), (10, true), (11, false)] mixed (by kernel_rfl) ?_
        refine JM.py ao ⟨fun _ => Py.move xe⟩ ?_
        refine JM.py ao ⟨fun _ => Py.move xe⟩ ?_
        refine JM.py ao ⟨fun _ => Py.add xe ev_const wI⟩ ?_
        refine JM.py ao ⟨fun _ => Py.move xe⟩ ?_
        refine JM.py ao ⟨fun _ => Py.nil xe⟩ ?_
        refine JM.py ao ⟨fun _ => Py.fld fld143_0 xe xoff⟩ ?_
        refine JM.ld ao scal45 xe xpick xrow ?_
        first | refine JM.py ao ⟨fun _ => Py.add xe ev_const (w_u32 (by omega))⟩ ?_ | refine JM.py ao ⟨fun _ => Py.add xe ev_const (m_u32 _)⟩ ?_
        refine JM.py ao ⟨fun _ => Py.assign xe⟩ ?_
        refine JM.py ao ⟨fun _ => Py.nil xe⟩ ?_
        refine JM.py ao ⟨fun _ => Py.fld fld143_0 xe xoff⟩ ?_
        refine JM.eff ao ?_
        refine JO.store siz45 xe xe (by first | rfl | assumption) xpick xsize xnorm ?_
        refine JO.nil ?_
        refine JX.mix (Kept.drop (Forced.step (by kernel_rfl)) Kept.nil) ?_
        refine JM.nil ?_
        refine JX.loop (i + 4, out ++ [w / 16777216 % 256, w / 65536 % 256, w / 256 % 256, w / 1 % 256], ((((cs'.setIfInBounds (o + i + 0) (vu8 (w / 16777216 % 256))).setIfInBounds (o + i + 1) (vu8 (w / 65536 % 256))).setIfInBounds (o + i + 2) (vu8 (w / 256 % 256))).setIfInBounds (o + i + 3) (vu8 (w / 1 % 256)))) ⟨by dsimp only; rw [Nat.div_one]; exact hW2, hR2, by simp only [Array.size_setIfInBounds]; exact hz⟩ (by dsimp only; omega) xag xpkE
    · skip
      by_cases q1 : x0 = 127 ∧ 192 ≤ x1
      · skip
        have hq : (x0 = 64 ∧ x1 < 64) ∨ (x0 = 127 ∧ 192 ≤ x1) := .inr q1
        obtain ⟨q1, q2⟩ := q1
        refine JO.py (Py.load scal5 xe xpick xrow) ?_
        first | refine oD (Py.eql xe ev_const) ?_ | refine oU (Py.eql xe ev_const) ?_ | refine JO.py (Py.eql xe ev_const) ?_
        refine oM ?_
        first | (refine gT ?_; (refine oM ?_)) | refine kF ?_ | refine JO.skipU rfl (Lk.ev (v := undef) xlk rfl) ?_
        first | (refine gT ?_; (refine oM ?_)) | refine kF ?_ | refine JO.skipU rfl (Lk.ev (v := undef) xlk rfl) ?_
        first | (refine gT ?_; (refine JO.py (Py.add xe ev_const wI) ?_)) | refine kF ?_ | refine JO.skipU rfl (Lk.ev (v := undef) xlk rfl) ?_
        first | (refine gT ?_; (refine JO.py (Py.idxS Tryz.underlying22 siz5 xe xe (by omega) xidx xmult) ?_)) | refine kF ?_ | refine JO.skipU rfl (Lk.ev (v := undef) xlk rfl) ?_
        first | (refine gT ?_; (refine JO.py (Py.load scal5 xe xpick xrow) ?_)) | refine kF ?_ | refine JO.skipU rfl (Lk.ev (v := undef) xlk rfl) ?_
        first | (refine gT ?_; (refine JO.py (Py.andN xe ev_const (r_u8 (by omega)) (r_u8 (by omega)) (by decide)) ?_)) | refine kF ?_ | refine JO.skipU rfl (Lk.ev (v := undef) xlk rfl) ?_
        first | (refine gT ?_; (first | refine oD (Py.eql xe ev_const) ?_ | refine oU (Py.eql xe ev_const) ?_ | refine JO.py (Py.eql xe ev_const) ?_)) | refine kF ?_ | refine JO.skipU rfl (Lk.ev (v := undef) xlk rfl) ?_
        first | refine JO.py (Py.pickT xe xe) ?_ | refine JO.py (Py.pickF xe ev_const) ?_
        refine oM ?_
        first | (refine gF ?_; (refine oM ?_)) | refine kT ?_ | refine JO.skipU rfl (Lk.ev (v := undef) xlk rfl) ?_
        first | (refine gF ?_; (refine oM ?_)) | refine kT ?_ | refine JO.skipU rfl (Lk.ev (v := undef) xlk rfl) ?_
        first | (refine gF ?_; (refine JO.py (Py.add xe ev_const wI) ?_)) | refine kT ?_ | refine JO.skipU rfl (Lk.ev (v := undef) xlk rfl) ?_
        first | (refine gF ?_; (refine JO.py (Py.idxS Tryz.underlying22 siz5 xe xe (by omega) xidx xmult) ?_)) | refine kT ?_ | refine JO.skipU rfl (Lk.ev (v := undef) xlk rfl) ?_
        first | (refine gF ?_; (refine JO.py (Py.load scal5 xe xpick xrow) ?_)) | refine kT ?_ | refine JO.skipU rfl (Lk.ev (v := undef) xlk rfl) ?_
        first | (refine gF ?_; (first | refine oD (Py.eql xe ev_const) ?_ | refine oU (Py.eql xe ev_const) ?_ | refine JO.py (Py.eql xe ev_const) ?_)) | refine kT ?_ | refine JO.skipU rfl (Lk.ev (v := undef) xlk rfl) ?_
        first | (refine gF ?_; (refine oM ?_)) | refine kT ?_ | refine JO.skipU rfl (Lk.ev (v := undef) xlk rfl) ?_
        first | (refine gT ?_; (refine oM ?_)) | refine kF ?_ | refine JO.skipU rfl (Lk.ev (v := undef) xlk rfl) ?_
        first | (refine gT ?_; (refine oM ?_)) | refine kF ?_ | refine JO.skipU rfl (Lk.ev (v := undef) xlk rfl) ?_
        first | (refine gT ?_; (refine JO.py (Py.add xe ev_const wI) ?_)) | refine kF ?_ | refine JO.skipU rfl (Lk.ev (v := undef) xlk rfl) ?_
        first | (refine gT ?_; (refine JO.py (Py.idxS Tryz.underlying22 siz5 xe xe (by omega) xidx xmult) ?_)) | refine kF ?_ | refine JO.skipU rfl (Lk.ev (v := undef) xlk rfl) ?_
        first | (refine gT ?_; (refine JO.py (Py.load scal5 xe xpick xrow) ?_)) | refine kF ?_ | refine JO.skipU rfl (Lk.ev (v := undef) xlk rfl) ?_
        first | (refine gT ?_; (first | refine oD (Py.geq xe ev_const) ?_ | refine oU (Py.geq xe ev_const) ?_ | refine JO.py (Py.geq xe ev_const) ?_)) | refine kF ?_ | refine JO.skipU rfl (Lk.ev (v := undef) xlk rfl) ?_
        first | (refine gF ?_; (first | refine JO.py (Py.pickT xe xe) ?_ | refine JO.py (Py.pickF xe ev_const) ?_)) | refine kT ?_ | refine JO.skipU rfl (Lk.ev (v := undef) xlk rfl) ?_
        first | refine JO.py (Py.pickT xe ev_const) ?_ | refine JO.py (Py.pickF xe xe) ?_
        refine nC ?_
        refine cT ?_
        refine sR ?_
        refine oM ?_
        first | refine JO.py (Py.shl 2 4 xe ev_const rfl (by decide) (by decide) (w_u32 (by omega))) ?_ | refine JO.py (Py.shl 2 4 xe ev_const rfl (by decide) (by decide) (m_u32 _)) ?_
        refine oA ?_
        refine nC (JC.seq (sR ?_))
        refine oM ?_
        refine nC ?_
        refine cF ?_
        obtain ⟨v1, hv1⟩ : ∃ v, (w * 4 + (4294967296 - (ip + i) % 4294967296)) % 4294967296 = v := ⟨_, rfl⟩
        refine JC.region ?_
        refine oM ?_
        refine oM ?_
        refine JO.py (Py.nil xe) ?_
        refine JO.py (Py.fld fld143_0 xe xoff) ?_
        refine JO.py (Py.load scal45 xe xpick xrow) ?_
        refine JO.py (Py.to (Py.sub xe xe (m_u32 _)) (v' := .int .u32 (v1 : Nat)) (vint (by omega))) ?_
        obtain ⟨u, hu⟩ : ∃ u, v1 % 33554432 = u := ⟨_, rfl⟩
        obtain ⟨v2, hv2⟩ : ∃ v, (u + 4278190080) % 4294967296 = v := ⟨_, rfl⟩
        have hx := Bx.sp_x (by omega) hv2.symm
        obtain ⟨v3, hv3⟩ : ∃ v, Bx.spV u = v := ⟨_, rfl⟩
        have hv3l : v3 < 4294967296 := by rw [← hv3]; unfold Bx.spV; split <;> omega
        rw [hv3] at hx
        refine oA ?_
        refine nC (sR ?_)
        refine oM ?_
        refine JO.py (Py.mask 25 33554432 xe ev_const (by decide) (by decide) (by decide) (r_u32 (by omega)) (w_u32 (by omega))) ?_
        refine oA ?_
        refine nC (sR ?_)
        refine oM ?_
        refine JO.py (Py.to (Py.sub xe ev_const (m_u32 _)) (v' := .int .u32 (v2 : Nat)) (vint (by omega))) ?_
        refine oA ?_
        refine nC (sR ?_)
        refine oM ?_
        refine JO.py (Py.to (Py.xorN xe ev_const (r_u32 (by omega)) (r_u32 (by omega)) (by decide)) (v' := .int .u32 (v3 : Nat)) (vint (by rw [← hx]; rfl))) ?_
        obtain ⟨z, hzz⟩ : ∃ z, v3 / 4 + 1073741824 = z := ⟨_, rfl⟩
        have hzl : z < 4294967296 := by omega
        refine oA ?_
        refine nC (sR ?_)
        refine oM ?_
        refine JO.py (Py.shr 2 4 xe ev_const rfl (by decide) (by decide) (by decide)) ?_
        refine oA ?_
        refine nC (JC.region ?_)
        refine oM ?_
        refine JO.py (Py.to (Py.orN xe ev_const (r_u32 (by omega)) (r_u32 (by omega)) (by decide)) (v' := .int .u32 (z : Nat)) (vint (or_int (x := v3 / 4) (y := 1073741824) (by omega) rfl ((or_lo (k := 30) (a := 1) (by omega) rfl).trans hzz)))) ?_
        have hy : Bx.spD (ip + i) (x0, x1, x2, x3) = Bx.un z := by rw [← hzz, ← hv3, ← hu]; exact Bx.sp_t hq (by omega) (by rw [hw]; exact hv1.symm)
        have hW2 := hW.word (y := Bx.un z) (by omega) (by rw [show bs.getD i 0 = x0 from e0, e1, e2, e3]; exact hy)
        have hR2 := put_ok (y0 := z / 16777216 % 256) (y1 := z / 65536 % 256) (y2 := z / 256 % 256) (y3 := z / 1 % 256) hR hW.len (by omega) (by omega) (by omega) (by omega) (by omega) (by omega)
        refine oA ?_
        refine nC (JC.region ?_)
        refine oM ?_
        refine oM ?_
        refine JO.py (Py.slc (l := i) (h := l) (p := o + i) (q := l - i) (c := c - i) Tryz.underlying22 siz5 xe (Bd.some xe (by omega)) Bd.none (by omega) (by omega) (by omega) (by omega) (by omega) (by omega)) ?_
        refine oM ?_
        refine JO.call (Evs.cons xe (Evs.cons xe Evs.nil)) (putBE_con G b (o + i) (l - i) (c - i) cs' (vu8 x3) z _ _ _ _ (by omega) (by omega) k3.1 hzl rfl rfl rfl rfl) xpkE ?_
        rintro _
        show JO _ _ _ _ _ _ _ ((93, _) :: _) _ (_ :: _ :: _)
        refine JO.nil (JX.blockN (JX.code ?_))
        refine JC.regionM [(0, true), (1, true), (2, true), (3, true), (4, true), (5, true), (6, true), (7, true), (8, true), (9, true), (10, true), (11, false)] mixed (by kernel_rfl) ?_
        refine JM.py ao ⟨fun _ => Py.move xe⟩ ?_
        refine JM.py ao ⟨fun _ => Py.move xe⟩ ?_
        refine JM.py ao ⟨fun _ => Py.add xe ev_const wI⟩ ?_
        refine JM.py ao ⟨fun _ => Py.move xe⟩ ?_
        refine JM.py ao ⟨fun _ => Py.nil xe⟩ ?_
        refine JM.py ao ⟨fun _ => Py.fld fld143_0 xe xoff⟩ ?_
        refine JM.ld ao scal45 xe xpick xrow ?_
        first | refine JM.py ao ⟨fun _ => Py.add xe ev_const (w_u32 (by omega))⟩ ?_ | refine JM.py ao ⟨fun _ => Py.add xe ev_const (m_u32 _)⟩ ?_
        refine JM.py ao ⟨fun _ => Py.assign xe⟩ ?_
        refine JM.py ao ⟨fun _ => Py.nil xe⟩ ?_
        refine JM.py ao ⟨fun _ => Py.fld fld143_0 xe xoff⟩ ?_
        refine JM.eff ao ?_
        refine JO.store siz45 xe xe (by first | rfl | assumption) xpick xsize xnorm ?_
        refine JO.nil ?_
        refine JX.mix (Kept.drop (Forced.step (by kernel_rfl)) Kept.nil) ?_
        refine JM.nil ?_
        refine JX.loop (i + 4, out ++ [z / 16777216 % 256, z / 65536 % 256, z / 256 % 256, z / 1 % 256], ((((cs'.setIfInBounds (o + i + 0) (vu8 (z / 16777216 % 256))).setIfInBounds (o + i + 1) (vu8 (z / 65536 % 256))).setIfInBounds (o + i + 2) (vu8 (z / 256 % 256))).setIfInBounds (o + i + 3) (vu8 (z / 1 % 256)))) ⟨by dsimp only; rw [Nat.div_one]; exact hW2, hR2, by simp only [Array.size_setIfInBounds]; exact hz⟩ (by dsimp only; omega) xag xpkE
      · skip
        have hq : ¬ ((x0 = 64 ∧ x1 < 64) ∨ (x0 = 127 ∧ 192 ≤ x1)) := by omega
        by_cases q2 : x0 = 127
        · skip
          have q3 : ¬ 192 ≤ x1 := fun q => q1 ⟨q2, q⟩
          refine JO.py (Py.load scal5 xe xpick xrow) ?_
          first | refine oD (Py.eql xe ev_const) ?_ | refine oU (Py.eql xe ev_const) ?_ | refine JO.py (Py.eql xe ev_const) ?_
          refine oM ?_
          first | (refine gT ?_; (refine oM ?_)) | refine kF ?_ | refine JO.skipU rfl (Lk.ev (v := undef) xlk rfl) ?_
          first | (refine gT ?_; (refine oM ?_)) | refine kF ?_ | refine JO.skipU rfl (Lk.ev (v := undef) xlk rfl) ?_
          first | (refine gT ?_; (refine JO.py (Py.add xe ev_const wI) ?_)) | refine kF ?_ | refine JO.skipU rfl (Lk.ev (v := undef) xlk rfl) ?_
          first | (refine gT ?_; (refine JO.py (Py.idxS Tryz.underlying22 siz5 xe xe (by omega) xidx xmult) ?_)) | refine kF ?_ | refine JO.skipU rfl (Lk.ev (v := undef) xlk rfl) ?_
          first | (refine gT ?_; (refine JO.py (Py.load scal5 xe xpick xrow) ?_)) | refine kF ?_ | refine JO.skipU rfl (Lk.ev (v := undef) xlk rfl) ?_
          first | (refine gT ?_; (refine JO.py (Py.andN xe ev_const (r_u8 (by omega)) (r_u8 (by omega)) (by decide)) ?_)) | refine kF ?_ | refine JO.skipU rfl (Lk.ev (v := undef) xlk rfl) ?_
          first | (refine gT ?_; (first | refine oD (Py.eql xe ev_const) ?_ | refine oU (Py.eql xe ev_const) ?_ | refine JO.py (Py.eql xe ev_const) ?_)) | refine kF ?_ | refine JO.skipU rfl (Lk.ev (v := undef) xlk rfl) ?_
          first | refine JO.py (Py.pickT xe xe) ?_ | refine JO.py (Py.pickF xe ev_const) ?_
          refine oM ?_
          first | (refine gF ?_; (refine oM ?_)) | refine kT ?_ | refine JO.skipU rfl (Lk.ev (v := undef) xlk rfl) ?_
          first | (refine gF ?_; (refine oM ?_)) | refine kT ?_ | refine JO.skipU rfl (Lk.ev (v := undef) xlk rfl) ?_
          first | (refine gF ?_; (refine JO.py (Py.add xe ev_const wI) ?_)) | refine kT ?_ | refine JO.skipU rfl (Lk.ev (v := undef) xlk rfl) ?_
          first | (refine gF ?_; (refine JO.py (Py.idxS Tryz.underlying22 siz5 xe xe (by omega) xidx xmult) ?_)) | refine kT ?_ | refine JO.skipU rfl (Lk.ev (v := undef) xlk rfl) ?_
          first | (refine gF ?_; (refine JO.py (Py.load scal5 xe xpick xrow) ?_)) | refine kT ?_ | refine JO.skipU rfl (Lk.ev (v := undef) xlk rfl) ?_
          first | (refine gF ?_; (first | refine oD (Py.eql xe ev_const) ?_ | refine oU (Py.eql xe ev_const) ?_ | refine JO.py (Py.eql xe ev_const) ?_)) | refine kT ?_ | refine JO.skipU rfl (Lk.ev (v := undef) xlk rfl) ?_
          first | (refine gF ?_; (refine oM ?_)) | refine kT ?_ | refine JO.skipU rfl (Lk.ev (v := undef) xlk rfl) ?_
          first | (refine gT ?_; (refine oM ?_)) | refine kF ?_ | refine JO.skipU rfl (Lk.ev (v := undef) xlk rfl) ?_
          first | (refine gT ?_; (refine oM ?_)) | refine kF ?_ | refine JO.skipU rfl (Lk.ev (v := undef) xlk rfl) ?_
          first | (refine gT ?_; (refine JO.py (Py.add xe ev_const wI) ?_)) | refine kF ?_ | refine JO.skipU rfl (Lk.ev (v := undef) xlk rfl) ?_
          first | (refine gT ?_; (refine JO.py (Py.idxS Tryz.underlying22 siz5 xe xe (by omega) xidx xmult) ?_)) | refine kF ?_ | refine JO.skipU rfl (Lk.ev (v := undef) xlk rfl) ?_
          first | (refine gT ?_; (refine JO.py (Py.load scal5 xe xpick xrow) ?_)) | refine kF ?_ | refine JO.skipU rfl (Lk.ev (v := undef) xlk rfl) ?_
          first | (refine gT ?_; (first | refine oD (Py.geq xe ev_const) ?_ | refine oU (Py.geq xe ev_const) ?_ | refine JO.py (Py.geq xe ev_const) ?_)) | refine kF ?_ | refine JO.skipU rfl (Lk.ev (v := undef) xlk rfl) ?_
          first | (refine gF ?_; (first | refine JO.py (Py.pickT xe xe) ?_ | refine JO.py (Py.pickF xe ev_const) ?_)) | refine kT ?_ | refine JO.skipU rfl (Lk.ev (v := undef) xlk rfl) ?_
          first | refine JO.py (Py.pickT xe ev_const) ?_ | refine JO.py (Py.pickF xe xe) ?_
          refine nC ?_
          refine cF ?_
          refine JC.skip (JX.code (JC.region ?_))
          refine oM ?_
          refine oM ?_
          have hy : Bx.spD (ip + i) (x0, x1, x2, x3) = Bx.un w := by rw [← hw, Bx.un_be l0 l1 l2 l3]; exact Bx.sp_f hq
          have hW2 := hW.word (y := Bx.un w) (by omega) (by rw [show bs.getD i 0 = x0 from e0, e1, e2, e3]; exact hy)
          have hR2 := put_ok (y0 := w / 16777216 % 256) (y1 := w / 65536 % 256) (y2 := w / 256 % 256) (y3 := w / 1 % 256) hR hW.len (by omega) (by omega) (by omega) (by omega) (by omega) (by omega)
          refine JO.py (Py.slc (l := i) (h := l) (p := o + i) (q := l - i) (c := c - i) Tryz.underlying22 siz5 xe (Bd.some xe (by omega)) Bd.none (by omega) (by omega) (by omega) (by omega) (by omega) (by omega)) ?_
          refine oM ?_
          refine JO.call (Evs.cons xe (Evs.cons xe Evs.nil)) (putBE_con G b (o + i) (l - i) (c - i) cs' (vu8 x3) w _ _ _ _ (by omega) (by omega) k3.1 hwl rfl rfl rfl rfl) xpkE ?_
          rintro _
          show JO _ _ _ _ _ _ _ ((93, _) :: _) _ (_ :: _ :: _)
          refine JO.nil (JX.blockN (JX.code ?_))
          refine JC.regionM [(0, true), (1, true), (2, true), (3, true), (4, true), (5, true), (6, true), (7, true), (8, true), (9, true), (10, true), (11, false)] mixed (by kernel_rfl) ?_
          refine JM.py ao ⟨fun _ => Py.move xe⟩ ?_
          refine JM.py ao ⟨fun _ => Py.move xe⟩ ?_
          refine JM.py ao ⟨fun _ => Py.add xe ev_const wI⟩ ?_
          refine JM.py ao ⟨fun _ => Py.move xe⟩ ?_
          refine JM.py ao ⟨fun _ => Py.nil xe⟩ ?_
          refine JM.py ao ⟨fun _ => Py.fld fld143_0 xe xoff⟩ ?_
          refine JM.ld ao scal45 xe xpick xrow ?_
          first | refine JM.py ao ⟨fun _ => Py.add xe ev_const (w_u32 (by omega))⟩ ?_ | refine JM.py ao ⟨fun _ => Py.add xe ev_const (m_u32 _)⟩ ?_
          refine JM.py ao ⟨fun _ => Py.assign xe⟩ ?_
          refine JM.py ao ⟨fun _ => Py.nil xe⟩ ?_
          refine JM.py ao ⟨fun _ => Py.fld fld143_0 xe xoff⟩ ?_
          refine JM.eff ao ?_
          refine JO.store siz45 xe xe (by first | rfl | assumption) xpick xsize xnorm ?_
          refine JO.nil ?_
          refine JX.mix (Kept.drop (Forced.step (by kernel_rfl)) Kept.nil) ?_
          refine JM.nil ?_
          refine JX.loop (i + 4, out ++ [w / 16777216 % 256, w / 65536 % 256, w / 256 % 256, w / 1 % 256], ((((cs'.setIfInBounds (o + i + 0) (vu8 (w / 16777216 % 256))).setIfInBounds (o + i + 1) (vu8 (w / 65536 % 256))).setIfInBounds (o + i + 2) (vu8 (w / 256 % 256))).setIfInBounds (o + i + 3) (vu8 (w / 1 % 256)))) ⟨by dsimp only; rw [Nat.div_one]; exact hW2, hR2, by simp only [Array.size_setIfInBounds]; exact hz⟩ (by dsimp only; omega) xag xpkE
        · skip
          refine JO.py (Py.load scal5 xe xpick xrow) ?_
          first | refine oD (Py.eql xe ev_const) ?_ | refine oU (Py.eql xe ev_const) ?_ | refine JO.py (Py.eql xe ev_const) ?_
          refine oM ?_
          first | (refine gT ?_; (refine oM ?_)) | refine kF ?_ | refine JO.skipU rfl (Lk.ev (v := undef) xlk rfl) ?_
          first | (refine gT ?_; (refine oM ?_)) | refine kF ?_ | refine JO.skipU rfl (Lk.ev (v := undef) xlk rfl) ?_
          first | (refine gT ?_; (refine JO.py (Py.add xe ev_const wI) ?_)) | refine kF ?_ | refine JO.skipU rfl (Lk.ev (v := undef) xlk rfl) ?_
          first | (refine gT ?_; (refine JO.py (Py.idxS Tryz.underlying22 siz5 xe xe (by omega) xidx xmult) ?_)) | refine kF ?_ | refine JO.skipU rfl (Lk.ev (v := undef) xlk rfl) ?_
          first | (refine gT ?_; (refine JO.py (Py.load scal5 xe xpick xrow) ?_)) | refine kF ?_ | refine JO.skipU rfl (Lk.ev (v := undef) xlk rfl) ?_
          first | (refine gT ?_; (refine JO.py (Py.andN xe ev_const (r_u8 (by omega)) (r_u8 (by omega)) (by decide)) ?_)) | refine kF ?_ | refine JO.skipU rfl (Lk.ev (v := undef) xlk rfl) ?_
          first | (refine gT ?_; (first | refine oD (Py.eql xe ev_const) ?_ | refine oU (Py.eql xe ev_const) ?_ | refine JO.py (Py.eql xe ev_const) ?_)) | refine kF ?_ | refine JO.skipU rfl (Lk.ev (v := undef) xlk rfl) ?_
          first | refine JO.py (Py.pickT xe xe) ?_ | refine JO.py (Py.pickF xe ev_const) ?_
          refine oM ?_
          first | (refine gF ?_; (refine oM ?_)) | refine kT ?_ | refine JO.skipU rfl (Lk.ev (v := undef) xlk rfl) ?_
          first | (refine gF ?_; (refine oM ?_)) | refine kT ?_ | refine JO.skipU rfl (Lk.ev (v := undef) xlk rfl) ?_
          first | (refine gF ?_; (refine JO.py (Py.add xe ev_const wI) ?_)) | refine kT ?_ | refine JO.skipU rfl (Lk.ev (v := undef) xlk rfl) ?_
          first | (refine gF ?_; (refine JO.py (Py.idxS Tryz.underlying22 siz5 xe xe (by omega) xidx xmult) ?_)) | refine kT ?_ | refine JO.skipU rfl (Lk.ev (v := undef) xlk rfl) ?_
          first | (refine gF ?_; (refine JO.py (Py.load scal5 xe xpick xrow) ?_)) | refine kT ?_ | refine JO.skipU rfl (Lk.ev (v := undef) xlk rfl) ?_
          first | (refine gF ?_; (first | refine oD (Py.eql xe ev_const) ?_ | refine oU (Py.eql xe ev_const) ?_ | refine JO.py (Py.eql xe ev_const) ?_)) | refine kT ?_ | refine JO.skipU rfl (Lk.ev (v := undef) xlk rfl) ?_
          first | (refine gF ?_; (refine oM ?_)) | refine kT ?_ | refine JO.skipU rfl (Lk.ev (v := undef) xlk rfl) ?_
          first | (refine gT ?_; (refine oM ?_)) | refine kF ?_ | refine JO.skipU rfl (Lk.ev (v := undef) xlk rfl) ?_
          first | (refine gT ?_; (refine oM ?_)) | refine kF ?_ | refine JO.skipU rfl (Lk.ev (v := undef) xlk rfl) ?_
          first | (refine gT ?_; (refine JO.py (Py.add xe ev_const wI) ?_)) | refine kF ?_ | refine JO.skipU rfl (Lk.ev (v := undef) xlk rfl) ?_
          first | (refine gT ?_; (refine JO.py (Py.idxS Tryz.underlying22 siz5 xe xe (by omega) xidx xmult) ?_)) | refine kF ?_ | refine JO.skipU rfl (Lk.ev (v := undef) xlk rfl) ?_
          first | (refine gT ?_; (refine JO.py (Py.load scal5 xe xpick xrow) ?_)) | refine kF ?_ | refine JO.skipU rfl (Lk.ev (v := undef) xlk rfl) ?_
          first | (refine gT ?_; (first | refine oD (Py.geq xe ev_const) ?_ | refine oU (Py.geq xe ev_const) ?_ | refine JO.py (Py.geq xe ev_const) ?_)) | refine kF ?_ | refine JO.skipU rfl (Lk.ev (v := undef) xlk rfl) ?_
          first | (refine gF ?_; (first | refine JO.py (Py.pickT xe xe) ?_ | refine JO.py (Py.pickF xe ev_const) ?_)) | refine kT ?_ | refine JO.skipU rfl (Lk.ev (v := undef) xlk rfl) ?_
          first | refine JO.py (Py.pickT xe ev_const) ?_ | refine JO.py (Py.pickF xe xe) ?_
          refine nC ?_
          refine cF ?_
          refine JC.skip (JX.code (JC.region ?_))
          refine oM ?_
          refine oM ?_
          have hy : Bx.spD (ip + i) (x0, x1, x2, x3) = Bx.un w := by rw [← hw, Bx.un_be l0 l1 l2 l3]; exact Bx.sp_f hq
          have hW2 := hW.word (y := Bx.un w) (by omega) (by rw [show bs.getD i 0 = x0 from e0, e1, e2, e3]; exact hy)
          have hR2 := put_ok (y0 := w / 16777216 % 256) (y1 := w / 65536 % 256) (y2 := w / 256 % 256) (y3 := w / 1 % 256) hR hW.len (by omega) (by omega) (by omega) (by omega) (by omega) (by omega)
          refine JO.py (Py.slc (l := i) (h := l) (p := o + i) (q := l - i) (c := c - i) Tryz.underlying22 siz5 xe (Bd.some xe (by omega)) Bd.none (by omega) (by omega) (by omega) (by omega) (by omega) (by omega)) ?_
          refine oM ?_
          refine JO.call (Evs.cons xe (Evs.cons xe Evs.nil)) (putBE_con G b (o + i) (l - i) (c - i) cs' (vu8 x3) w _ _ _ _ (by omega) (by omega) k3.1 hwl rfl rfl rfl rfl) xpkE ?_
          rintro _
          show JO _ _ _ _ _ _ _ ((93, _) :: _) _ (_ :: _ :: _)
          refine JO.nil (JX.blockN (JX.code ?_))
          refine JC.regionM [(0, true), (1, true), (2, true), (3, true), (4, true), (5, true), (6, true), (7, true), (8, true), (9, true), (10, true), (11, false)] mixed (by kernel_rfl) ?_
          refine JM.py ao ⟨fun _ => Py.move xe⟩ ?_
          refine JM.py ao ⟨fun _ => Py.move xe⟩ ?_
          refine JM.py ao ⟨fun _ => Py.add xe ev_const wI⟩ ?_
          refine JM.py ao ⟨fun _ => Py.move xe⟩ ?_
          refine JM.py ao ⟨fun _ => Py.nil xe⟩ ?_
          refine JM.py ao ⟨fun _ => Py.fld fld143_0 xe xoff⟩ ?_
          refine JM.ld ao scal45 xe xpick xrow ?_
          first | refine JM.py ao ⟨fun _ => Py.add xe ev_const (w_u32 (by omega))⟩ ?_ | refine JM.py ao ⟨fun _ => Py.add xe ev_const (m_u32 _)⟩ ?_
          refine JM.py ao ⟨fun _ => Py.assign xe⟩ ?_
          refine JM.py ao ⟨fun _ => Py.nil xe⟩ ?_
          refine JM.py ao ⟨fun _ => Py.fld fld143_0 xe xoff⟩ ?_
          refine JM.eff ao ?_
          refine JO.store siz45 xe xe (by first | rfl | assumption) xpick xsize xnorm ?_
          refine JO.nil ?_
          refine JX.mix (Kept.drop (Forced.step (by kernel_rfl)) Kept.nil) ?_
          refine JM.nil ?_
          refine JX.loop (i + 4, out ++ [w / 16777216 % 256, w / 65536 % 256, w / 256 % 256, w / 1 % 256], ((((cs'.setIfInBounds (o + i + 0) (vu8 (w / 16777216 % 256))).setIfInBounds (o + i + 1) (vu8 (w / 65536 % 256))).setIfInBounds (o + i + 2) (vu8 (w / 256 % 256))).setIfInBounds (o + i + 3) (vu8 (w / 1 % 256)))) ⟨by dsimp only; rw [Nat.div_one]; exact hW2, hR2, by simp only [Array.size_setIfInBounds]; exact hz⟩ (by dsimp only; omega) xag xpkE
  · skip
    first | refine oD (Py.lss xe xe) ?_ | refine oU (Py.lss xe xe) ?_ | refine JO.py (Py.lss xe xe) ?_
    refine nC ?_
    refine cF ?_
    refine JC.exit (JX.exit (JX.exit (JX.blockE (JX.code (sR ?_)))))
    refine oM ?_
    refine oA ?_
    refine nC (JC.ret ?_)
    refine JX.end1 (Or.inl rfl) (⟨(i, out, cs'), hW, by dsimp only; omega, hR, hz⟩) Tryz.results267 ((xe).trans (by first | exact xval | (dsimp only; exact xval))) xpkE
end Go.Proofs.YtfpepghmbeoanaaGreatDoor
