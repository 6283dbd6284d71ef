/-
The filters of words of the reference; all filters.
-/
import Derived.Test.YtfpepghmbeoanaaGreatDoorR07
set_option linter.unusedSimpArgs false
set_option linter.unusedVariables false
open Go Go.RowKit
namespace Go.Proofs.YtfpepghmbeoanaaGreatDoor
theorem and_mid {a : Nat} (s t : Nat) : a &&& 2 ^ s * (2 ^ t - 1) = a % 2 ^ (s + t) / 2 ^ s * 2 ^ s := by
  rw [Nat.mul_comm (a % 2 ^ (s + t) / 2 ^ s)]
  apply Nat.eq_of_testBit_eq
  intro i
  rw [Nat.testBit_and, Nat.testBit_two_pow_mul, Nat.testBit_two_pow_mul, Nat.testBit_two_pow_sub_one, Nat.testBit_div_two_pow, Nat.testBit_mod_two_pow]
  by_cases h : s ≤ i
  · have e1 : i - s + s = i := by omega
    have e2 : decide (i - s < t) = decide (i < s + t) := by
      by_cases h2 : i - s < t
      · rw [decide_eq_true h2, decide_eq_true (by omega)]
      · rw [decide_eq_false h2, decide_eq_false (by omega)]
    rw [e1, e2]
    simp only [ge_iff_le, h, decide_true, Bool.true_and]
    rw [Bool.and_comm]
  · simp [h]
theorem and_26 {a : Nat} : a &&& 67108860 = a % 67108864 / 4 * 4 := and_mid 2 24
namespace Bx
theorem ppcE_t {p a1 a2 z x0 x1 x2 x3 : Nat} (h : x0 / 4 = 18 ∧ x3 % 4 = 1) (h1 : be (x0, x1, x2, x3) &&& 67108860 = a1) (h2 : (a1 + p) &&& 67108860 = a2) (hz : 1207959552 + a2 + 1 = z) : ppcE p (x0, x1, x2, x3) = un z := by
  have hc : ppcIf (x0, x1, x2, x3) = true := by unfold ppcIf; simp [h.1, h.2]
  unfold ppcE
  rw [if_pos hc]
  rw [and_26] at h1 h2
  subst h1 h2 hz
  rfl
theorem ppcE_f {p x0 x1 x2 x3 : Nat} (h : ¬ (x0 / 4 = 18 ∧ x3 % 4 = 1)) : ppcE p (x0, x1, x2, x3) = (x0, x1, x2, x3) := by
  have hc : ¬ ppcIf (x0, x1, x2, x3) = true := by unfold ppcIf; simpa using h
  unfold ppcE
  rw [if_neg hc]
theorem armE_t {p D x0 x1 x2 x3 : Nat} (h : x3 = 235) (hD : x0 + 256 * x1 + 65536 * x2 + (p + 8) / 4 = D) : armE p (x0, x1, x2, x3) = (D % 256, D / 256 % 256, D / 65536 % 256, x3) := by
  have hc : armIf (x0, x1, x2, x3) = true := by unfold armIf; simp [h]
  unfold armE
  rw [if_pos hc]
  subst h hD
  rfl
theorem armE_f {p x0 x1 x2 x3 : Nat} (h : ¬ x3 = 235) : armE p (x0, x1, x2, x3) = (x0, x1, x2, x3) := by
  have hc : ¬ armIf (x0, x1, x2, x3) = true := by unfold armIf; simpa using h
  unfold armE
  rw [if_neg hc]
theorem spE_t {p d z x0 x1 x2 x3 : Nat} (h : (x0 = 64 ∧ x1 < 64) ∨ (x0 = 127 ∧ 192 ≤ x1)) (hp : p % 4 = 0) (hd : (be (x0, x1, x2, x3) * 4 % 4294967296 + p) % 4294967296 / 4 = d) (hz : (if d / 4194304 % 2 = 1 then 2143289344 else 1073741824) + d % 4194304 = z) : spE p (x0, x1, x2, x3) = un z := by
  have hc : spIf (x0, x1, x2, x3) = true := by
    unfold spIf
    rcases h with h | h <;> simp [h.1, h.2]
  unfold spE
  rw [if_pos hc]
  unfold spT
  congr 1
  generalize be (x0, x1, x2, x3) = w at hd ⊢
  subst hz
  split <;> split <;> omega
theorem spE_f {p x0 x1 x2 x3 : Nat} (h : ¬ ((x0 = 64 ∧ x1 < 64) ∨ (x0 = 127 ∧ 192 ≤ x1))) : spE p (x0, x1, x2, x3) = (x0, x1, x2, x3) := by
  have hc : ¬ spIf (x0, x1, x2, x3) = true := by
    unfold spIf
    simpa using h
  unfold spE
  rw [if_neg hc]
theorem be_lt5 {x0 x1 x2 x3 : Nat} (h0 : x0 < 256) (h1 : x1 < 256) (h2 : x2 < 256) (h3 : x3 < 256) : be (x0, x1, x2, x3) < 4294967296 := by unfold be; dsimp only; omega
theorem cat_keep {out xs : List Nat} {pos : Nat} (hp : pos + 4 ≤ xs.length) : (out ++ [xs.getD pos 0, xs.getD (pos + 1) 0, xs.getD (pos + 2) 0, xs.getD (pos + 3) 0]) ++ xs.drop (pos + 4) = out ++ xs.drop pos := by
  rw [drop4 hp, List.append_assoc]; rfl
theorem cat_three {out xs : List Nat} {pos y0 y1 y2 : Nat} (hl : out.length = pos) (hp : pos + 4 ≤ xs.length) :
    (((out ++ xs.drop pos).set (pos + 0) y0).set (pos + 1) y1).set (pos + 2) y2 = (out ++ [y0, y1, y2, xs.getD (pos + 3) 0]) ++ xs.drop (pos + 4) := by
  rw [cat_set hl, cat_set hl, cat_set hl, drop4 hp, List.append_assoc]
  rfl
end Bx
theorem put4_ok {cs : Array Value} {i y0 y1 y2 y3 : Nat} {out bs : List Nat} (hR : RdOk cs 0 (out ++ bs.drop i)) (hl : out.length = i) (hi : i + 4 ≤ bs.length) (hs : bs.length ≤ cs.size) (h0 : y0 < 256) (h1 : y1 < 256) (h2 : y2 < 256) (h3 : y3 < 256) :
    RdOk ((((cs.setIfInBounds (i + 0) (vu8 y0)).setIfInBounds (i + 1) (vu8 y1)).setIfInBounds (i + 2) (vu8 y2)).setIfInBounds (i + 3) (vu8 y3)) 0 ((out ++ [y0, y1, y2, y3]) ++ bs.drop (i + 4)) := by
  have hlen := Bx.cat_len (xs := bs) hl (by omega)
  rw [← Bx.cat_word hl hi]
  refine RdOk.set (RdOk.set (RdOk.set (RdOk.set hR ?_ ?_ h0 ?_) ?_ ?_ h1 ?_) ?_ ?_ h2 ?_) ?_ ?_ h3 ?_ <;> first | omega | (simp only [List.length_set, Array.size_setIfInBounds, hlen]; omega)
theorem put3_ok {cs : Array Value} {i y0 y1 y2 x3 : Nat} {out bs : List Nat} (hR : RdOk cs 0 (out ++ bs.drop i)) (hl : out.length = i) (hi : i + 4 ≤ bs.length) (hs : bs.length ≤ cs.size) (hx : bs.getD (i + 3) 0 = x3) (h0 : y0 < 256) (h1 : y1 < 256) (h2 : y2 < 256) :
    RdOk (((cs.setIfInBounds (i + 0) (vu8 y0)).setIfInBounds (i + 1) (vu8 y1)).setIfInBounds (i + 2) (vu8 y2)) 0 ((out ++ [y0, y1, y2, x3]) ++ bs.drop (i + 4)) := by
  have hlen := Bx.cat_len (xs := bs) hl (by omega)
  subst hx
  rw [← Bx.cat_three hl hi]
  refine RdOk.set (RdOk.set (RdOk.set hR ?_ ?_ h0 ?_) ?_ ?_ h1 ?_) ?_ ?_ h2 ?_ <;> first | omega | (simp only [List.length_set, Array.size_setIfInBounds, hlen]; omega)
set_option maxRecDepth 100000 in
theorem gand_192 : ∀ x, x < 256 → ((x &&& 192) = 0 ↔ x < 64) ∧ ((x &&& 192) = 192 ↔ 192 ≤ x) := by decide
/-- What the reference gives for a kind. -/
def encK (k : Nat) (bs : List Nat) : List Nat := if k = 0 then Bx.enc 0 Bx.H.none bs else if k = 1 then Bx.wmap Bx.ppcE 0 bs else if k = 2 then Bx.wmap Bx.armE 0 bs else Bx.wmap Bx.spE 0 bs
theorem spec0_con (G : Gst) (bb ob bl bc : Nat) (ba : Option Addr) (hba : 0 < bl → ba = some ⟨bb, ob, none⟩ ∧ bl ≤ bc) (cs : Array Value) (Tb : TypeId) (fr : Nat × Nat) (bs : List Nat) (hb : RdOk cs ob bs) (hbl : bs.length = bl) (h3 : bl ≤ 3000) :
    Con Tryz.prog G 13 #[.int .i64 ((0 : Nat) : Int), .slice ba bl bc] [blk bb (.cells cs Tb fr)] (fun x : Value => x) (fun x => [Row 5 x (u8s (encK 0 bs)), blk bb (.cells cs Tb fr)]) := by
  refine Con.intro Tryz.func13 rfl (by kernel_rfl) Tryz.ntmps13 (Nat.le_of_ble_eq_true rfl) ?_
  intro F
  show JC _ _ _ _ _ _ [(0, _), (1, _)] _ [_, _]
  refine sR ?_
  refine oC ?_
  refine nC (JC.seq (sR ?_))
  refine oM ?_
  first | refine oD (Py.eql xe ev_const) ?_ | refine oU (Py.eql xe ev_const) ?_ | refine JO.py (Py.eql xe ev_const) ?_
  refine nC ?_
  refine cT ?_
  refine sR ?_
  refine oM ?_
  refine JO.call (Evs.cons xe Evs.nil) (x86_con G bb ob bl bc ba hba cs Tb fr bs hb hbl h3) xpkE ?_
  rintro v
  show JO _ _ _ _ _ _ _ ((15, _) :: _) _ (_ :: _ :: _ :: _)
  refine oA ?_
  refine nC (JC.ret (JX.ret ?_))
  refine JX.end1 (Or.inl rfl) (v) Tryz.results13 ((xe).trans (by first | exact xval | (dsimp only; exact xval))) xpkE
set_option maxRecDepth 100000 in
set_option maxHeartbeats 4000000 in
theorem spec1_con (G : Gst) (bb ob bl bc : Nat) (ba : Option Addr) (hba : 0 < bl → ba = some ⟨bb, ob, none⟩ ∧ bl ≤ bc) (cs : Array Value) (Tb : TypeId) (fr : Nat × Nat) (bs : List Nat) (hb : RdOk cs ob bs) (hbl : bs.length = bl) (h3 : bl ≤ 3000) :
    Con Tryz.prog G 13 #[.int .i64 ((1 : Nat) : Int), .slice ba bl bc] [blk bb (.cells cs Tb fr)] (fun x : Value => x) (fun x => [Row 5 x (u8s (encK 1 bs)), blk bb (.cells cs Tb fr)]) := by
  have hby : Bx.Byte bs := hb.lt
  show Con Tryz.prog G 13 #[.int .i64 ((1 : Nat) : Int), .slice ba bl bc] [blk bb (.cells cs Tb fr)] (fun x : Value => x) (fun x => [Row 5 x (u8s (Bx.wmap Bx.ppcE 0 bs)), blk bb (.cells cs Tb fr)])
  refine Con.intro Tryz.func13 rfl (by kernel_rfl) Tryz.ntmps13 (Nat.le_of_ble_eq_true rfl) ?_
  intro F
  show JC _ _ _ _ _ _ [(0, _), (1, _)] _ [_, _]
  refine sR ?_
  refine oC ?_
  refine nC (JC.seq (sR ?_))
  refine oM ?_
  first | refine oD (Py.eql xe ev_const) ?_ | refine oU (Py.eql xe ev_const) ?_ | refine JO.py (Py.eql xe ev_const) ?_
  refine nC ?_
  refine cF ?_
  refine JC.skip (JX.code (sR ?_))
  refine JO.bslice Tryz.underlying22 elm5 Evs.nil rfl rfl (by first | (simp [Value.oneCell']; done) | (simp only [List.mem_cons, List.not_mem_nil, or_false, forall_eq]; assumption) | fail) (by decide) ?_; intro b16
  refine oM ?_
  refine JO.toRow (b := b16) (e := 5) (cur := #[]) (xs := u8s []) (m := 0) xpick rfl rfl (by decide) ?_
  refine JO.app Tryz.underlying22 elm5 xe xe xpick (Src.text rfl hba xpick hb hbl) (by simp [u8s]; omega) (by decide) ?_
  intro v18 ho18
  rw [show u8s [] ++ u8s bs = u8s bs from rfl]
  refine oA ?_
  refine nC (JC.seq (sR ?_))
  refine oC ?_
  refine nC (JC.block ?_)
  rcases Nat.eq_zero_or_pos bl with hz | hz
  · skip
    subst hz
    obtain rfl : bs = [] := List.eq_nil_of_length_eq_zero hbl
    have he : Bx.wmap Bx.ppcE 0 [] = [] := rfl
    rw [he]
    refine JC.rowV (e := 5) (v := v18) (xs := u8s []) xpick ?_
    rintro ra rc hv18 -
    rw [show (u8s []).length = 0 from rfl] at hv18
    subst hv18
    refine JC.unroll 0 ?_
    refine JC.seq (sR ?_)
    refine oM ?_
    refine JO.py (Py.add xe ev_const wI) ?_
    refine oM ?_
    refine JO.py (Py.lenS Tryz.underlying22 xe) ?_
    first | refine oD (Py.leq xe xe) ?_ | refine oU (Py.leq xe xe) ?_ | refine JO.py (Py.leq xe xe) ?_
    refine nC ?_
    refine cF ?_
    refine JC.exit (JX.exit (JX.exit (JX.blockE (JX.code (sR ?_)))))
    refine oM ?_
    refine oA ?_
    refine nC (JC.ret ?_)
    refine JX.end1 (Or.inl rfl) (_) Tryz.results13 ((xe).trans (by first | exact xval | (dsimp only; exact xval))) xpkE
  · skip
    refine JC.unrow (e := 5) (v := v18) (xs := u8s bs) xpick (by intro h; have := congrArg List.length h; rw [u8s_len, hbl] at this; exact absurd this (by show ¬ bl = 0; omega)) ?_
    rintro rb rc rcur rfl hrr
    rw [u8s_len, hbl]
    have hr0 := hrr.rd hby
    have hrs := hrr.size
    have hrle := hrr.le
    have hrlt := hrr.lt
    rw [u8s_len, hbl] at hrle
    refine JC.loop (ι := Nat × List Nat × Array Value) (fun x => Bx.WmP Bx.ppcE 0 bs x.1 x.2.1 ∧ RdOk x.2.2 0 (x.2.1 ++ bs.drop x.1) ∧ x.2.2.size = rc) (fun x => [(0, .int .i64 ((1 : Nat) : Int)), (5, .slice (some ⟨rb, 0, none⟩) bl rc), (6, .int .i64 (x.1 : Nat))]) (fun x => [cel rb 5 x.2.2, blk bb (.cells cs Tb fr), F]) (fun x => bl - x.1) (0, [], rcur) ⟨Bx.WmP.zero, by simpa using hr0, hrs⟩ xag xpkE ?_
    rintro ⟨i, out, cur⟩ base' ⟨hW, hR, hz2⟩
    dsimp only at hW hR hz2 ⊢
    have hle := hW.le
    have hlen := hW.len
    have hmod := hW.mod
    by_cases hp : i + 4 ≤ bl
    · skip
      obtain ⟨x0, e0⟩ : ∃ x, bs.getD (i + 0) 0 = x := ⟨_, rfl⟩
      obtain ⟨x1, e1⟩ : ∃ x, bs.getD (i + 1) 0 = x := ⟨_, rfl⟩
      obtain ⟨x2, e2⟩ : ∃ x, bs.getD (i + 2) 0 = x := ⟨_, rfl⟩
      obtain ⟨x3, e3⟩ : ∃ x, bs.getD (i + 3) 0 = x := ⟨_, rfl⟩
      obtain ⟨c0, l0⟩ := win0 (p := i + 0) hR hlen (by omega) rfl e0
      obtain ⟨c1, l1⟩ := win0 (p := i + 1) hR hlen (by omega) rfl e1
      obtain ⟨c2, l2⟩ := win0 (p := i + 2) hR hlen (by omega) rfl e2
      obtain ⟨c3, l3⟩ := win0 (p := i + 3) hR hlen (by omega) rfl e3
      have hwl := Bx.be_lt5 l0 l1 l2 l3
      obtain ⟨w, hw⟩ : ∃ w, Bx.be (x0, x1, x2, x3) = w := ⟨_, rfl⟩
      rw [hw] at hwl
      have hws : 16777216 * x0 + 65536 * x1 + 256 * x2 + x3 = w := hw
      refine JC.seq (sR ?_)
      refine oM ?_
      refine JO.py (Py.add xe ev_const wI) ?_
      refine oM ?_
      refine JO.py (Py.lenS Tryz.underlying22 xe) ?_
      first | refine oD (Py.leq xe xe) ?_ | refine oU (Py.leq xe xe) ?_ | refine JO.py (Py.leq xe xe) ?_
      refine nC ?_
      refine cT ?_
      refine JC.skip (JX.code (JC.seq (JC.block (sR ?_))))
      refine oM ?_
      refine oM ?_
      refine oM ?_
      refine JO.py (Py.add xe ev_const wI) ?_
      refine JO.py (Py.slc (l := i) (h := i + 4) (p := i) (q := 4) (c := rc - i) Tryz.underlying22 siz5 xe (Bd.some xe (by omega)) (Bd.some xe (by omega)) (by omega) (by omega) (by omega) (by omega) (by omega) (by omega)) ?_
      refine oA ?_
      refine nC (JC.seq ?_)
      refine JC.regionD mixed (by kernel_rfl) ?_
      refine JD.py (Py.move xe) ?_
      refine JD.py (Py.idxS Tryz.underlying22 siz5 xe ev_const (by omega) xidx xmult) ?_
      refine JD.py (Py.load scal5 xe xpick xrow) ?_
      first | refine JD.py (Py.conv cnv5_45 xe (w_u32 (by omega))) ?_ | refine JD.py (Py.conv cnv5_45 xe (m_u32 _)) ?_
      first | refine JD.py (Py.shl 24 16777216 xe ev_const rfl (by decide) (by decide) (w_u32 (by omega))) ?_ | refine JD.py (Py.shl 24 16777216 xe ev_const rfl (by decide) (by decide) (m_u32 _)) ?_
      refine JD.py (Py.move xe) ?_
      refine JD.py (Py.idxS Tryz.underlying22 siz5 xe ev_const (by omega) xidx xmult) ?_
      refine JD.py (Py.load scal5 xe xpick xrow) ?_
      first | refine JD.py (Py.conv cnv5_45 xe (w_u32 (by omega))) ?_ | refine JD.py (Py.conv cnv5_45 xe (m_u32 _)) ?_
      first | refine JD.py (Py.shl 16 65536 xe ev_const rfl (by decide) (by decide) (w_u32 (by omega))) ?_ | refine JD.py (Py.shl 16 65536 xe ev_const rfl (by decide) (by decide) (m_u32 _)) ?_
      refine JD.py (Py.to (Py.orN xe xe (r_u32 (by omega)) (r_u32 (by omega)) (by decide)) (v' := .int .u32 (16777216 * x0 + 65536 * x1 : Nat)) (vint (or_int (x := 16777216 * x0) (y := 65536 * x1) (by omega) (by omega) ((or_at (k := 24) (a := x0) (b := 0) (by omega) (by omega)).trans (rfl))))) ?_
      refine JD.py (Py.move xe) ?_
      refine JD.py (Py.idxS Tryz.underlying22 siz5 xe ev_const (by omega) xidx xmult) ?_
      refine JD.py (Py.load scal5 xe xpick xrow) ?_
      first | refine JD.py (Py.conv cnv5_45 xe (w_u32 (by omega))) ?_ | refine JD.py (Py.conv cnv5_45 xe (m_u32 _)) ?_
      first | refine JD.py (Py.shl 8 256 xe ev_const rfl (by decide) (by decide) (w_u32 (by omega))) ?_ | refine JD.py (Py.shl 8 256 xe ev_const rfl (by decide) (by decide) (m_u32 _)) ?_
      refine JD.py (Py.to (Py.orN xe xe (r_u32 (by omega)) (r_u32 (by omega)) (by decide)) (v' := .int .u32 (16777216 * x0 + 65536 * x1 + 256 * x2 : Nat)) (vint (or_int (x := 16777216 * x0 + 65536 * x1) (y := 256 * x2) (by omega) (by omega) ((or_at (k := 16) (a := 256 * x0 + x1) (b := 0) (by omega) (by omega)).trans (rfl))))) ?_
      refine JD.py (Py.move xe) ?_
      refine JD.py (Py.idxS Tryz.underlying22 siz5 xe ev_const (by omega) xidx xmult) ?_
      refine JD.py (Py.load scal5 xe xpick xrow) ?_
      first | refine JD.py (Py.conv cnv5_45 xe (w_u32 (by omega))) ?_ | refine JD.py (Py.conv cnv5_45 xe (m_u32 _)) ?_
      refine JD.py (Py.to (Py.orN xe xe (r_u32 (by omega)) (r_u32 (by omega)) (by decide)) (v' := .int .u32 (w : Nat)) (vint (or_int (x := 16777216 * x0 + 65536 * x1 + 256 * x2) (y := x3) (by omega) (by omega) ((or_at (k := 8) (a := 65536 * x0 + 256 * x1 + x2) (b := 0) (by omega) (by omega)).trans (hws))))) ?_
      by_cases hq : x0 / 4 = 18 ∧ x3 % 4 = 1
      · skip
        have q1 := hq.1
        have q2 := hq.2
        obtain ⟨a1, ha1⟩ : ∃ y, w &&& 67108860 = y := ⟨_, rfl⟩
        obtain ⟨a2, ha2⟩ : ∃ y, (a1 + i) &&& 67108860 = y := ⟨_, rfl⟩
        have hb1 := and_26 (a := w)
        have hb2 := and_26 (a := a1 + i)
        rw [ha1] at hb1
        rw [ha2] at hb2
        obtain ⟨z, hzz⟩ : ∃ z, 1207959552 + a2 + 1 = z := ⟨_, rfl⟩
        refine JD.py (Py.assign xe) ?_
        refine JD.nilN (JX.code (JC.seq (JC.block (sR ?_))))
        refine oM ?_
        first | refine oD (Py.eql xe ev_const) ?_ | refine oU (Py.eql xe ev_const) ?_ | refine JO.py (Py.eql xe ev_const) ?_
        refine oM ?_
        first | (refine gT ?_; (refine oM ?_)) | refine kF ?_ | refine JO.skipU rfl (Lk.ev (v := undef) xlk rfl) ?_
        first | (refine gT ?_; (refine JO.py (Py.idxS Tryz.underlying22 siz5 xe ev_const (by omega) xidx xmult) ?_)) | refine kF ?_ | refine JO.skipU rfl (Lk.ev (v := undef) xlk rfl) ?_
        first | (refine gT ?_; (refine JO.py (Py.load scal5 xe xpick xrow) ?_)) | refine kF ?_ | refine JO.skipU rfl (Lk.ev (v := undef) xlk rfl) ?_
        first | (refine gT ?_; (refine JO.py (Py.shr 2 4 xe ev_const rfl (by decide) (by decide) (by decide)) ?_)) | refine kF ?_ | refine JO.skipU rfl (Lk.ev (v := undef) xlk rfl) ?_
        first | (refine gT ?_; (first | refine oD (Py.eql xe ev_const) ?_ | refine oU (Py.eql xe ev_const) ?_ | refine JO.py (Py.eql xe ev_const) ?_)) | refine kF ?_ | refine JO.skipU rfl (Lk.ev (v := undef) xlk rfl) ?_
        first | refine JO.py (Py.pickT xe xe) ?_ | refine JO.py (Py.pickF xe ev_const) ?_
        refine oM ?_
        first | (refine gT ?_; (refine oM ?_)) | refine kF ?_ | refine JO.skipU rfl (Lk.ev (v := undef) xlk rfl) ?_
        first | (refine gT ?_; (refine JO.py (Py.idxS Tryz.underlying22 siz5 xe ev_const (by omega) xidx xmult) ?_)) | refine kF ?_ | refine JO.skipU rfl (Lk.ev (v := undef) xlk rfl) ?_
        first | (refine gT ?_; (refine JO.py (Py.load scal5 xe xpick xrow) ?_)) | refine kF ?_ | refine JO.skipU rfl (Lk.ev (v := undef) xlk rfl) ?_
        first | (refine gT ?_; (refine JO.py (Py.mask 2 4 xe ev_const (by decide) (by decide) (by decide) (r_u8 (by omega)) (w_u8 (by omega))) ?_)) | refine kF ?_ | refine JO.skipU rfl (Lk.ev (v := undef) xlk rfl) ?_
        first | (refine gT ?_; (first | refine oD (Py.eql xe ev_const) ?_ | refine oU (Py.eql xe ev_const) ?_ | refine JO.py (Py.eql xe ev_const) ?_)) | refine kF ?_ | refine JO.skipU rfl (Lk.ev (v := undef) xlk rfl) ?_
        first | refine JO.py (Py.pickT xe xe) ?_ | refine JO.py (Py.pickF xe ev_const) ?_
        refine oA ?_
        refine nC ?_
        refine cT ?_
        refine sR ?_
        refine oM ?_
        refine JO.py (Py.to (Py.andN xe ev_const (r_u32 (by omega)) (r_u32 (by omega)) (by decide)) (v' := .int .u32 (a1 : Nat)) (vint (by rw [← ha1]; rfl))) ?_
        refine oM ?_
        first | refine JO.py (Py.conv cnv3_45 xe (w_u32 (by omega))) ?_ | refine JO.py (Py.conv cnv3_45 xe (m_u32 _)) ?_
        refine JO.py (Py.to (Py.add xe xe (w_u32 (by omega))) (v' := .int .u32 (a1 + i : Nat)) (vint (by omega))) ?_
        refine oA ?_
        refine nC (JC.region ?_)
        refine oM ?_
        refine JO.py (Py.to (Py.andN xe ev_const (r_u32 (by omega)) (r_u32 (by omega)) (by decide)) (v' := .int .u32 (a2 : Nat)) (vint (by rw [← ha2]; rfl))) ?_
        refine JO.py (Py.to (Py.orN ev_const xe (r_u32 (by omega)) (r_u32 (by omega)) (by decide)) (v' := .int .u32 (1207959552 + a2 : Nat)) (vint (or_int (x := 1207959552) (y := a2) (by omega) (by omega) ((or_at (k := 26) (a := 18) (b := 0) (by omega) (by omega)).trans (rfl))))) ?_
        refine JO.py (Py.to (Py.orN xe ev_const (r_u32 (by omega)) (r_u32 (by omega)) (by decide)) (v' := .int .u32 (z : Nat)) (vint (or_int (x := 1207959552 + a2) (y := 1) (by omega) (by omega) ((or_at (k := 2) (a := (1207959552 + a2) / 4) (b := 0) (by omega) (by omega)).trans (hzz))))) ?_
        have hW2 := hW.word (y := Bx.un z) (by omega) (by rw [Nat.zero_add, show bs.getD i 0 = x0 from e0, e1, e2, e3]; exact Bx.ppcE_t hq (by rw [hw]; exact ha1) ha2 hzz)
        have hR2 := put4_ok (y0 := z / 16777216 % 256) (y1 := z / 65536 % 256) (y2 := z / 256 % 256) (y3 := z % 256) hR hW.len (by omega) (by omega) (by omega) (by omega) (by omega) (by omega)
        refine oA ?_
        refine JO.nil (JX.blockN (JX.code (JC.region ?_)))
        refine oM ?_
        refine oM ?_
        refine oM ?_
        refine oM ?_
        refine oM ?_
        refine JO.py (Py.shr 24 16777216 xe ev_const rfl (by decide) (by decide) (by decide)) ?_
        refine JO.py (Py.to (Py.conv cnv45_5 xe (m_u8 _)) (v' := vu8 (z / 16777216 % 256)) (vint (by omega))) ?_
        refine oM ?_
        refine JO.py (Py.shr 16 65536 xe ev_const rfl (by decide) (by decide) (by decide)) ?_
        refine JO.py (Py.to (Py.conv cnv45_5 xe (m_u8 _)) (v' := vu8 (z / 65536 % 256)) (vint (by omega))) ?_
        refine oM ?_
        refine JO.py (Py.shr 8 256 xe ev_const rfl (by decide) (by decide) (by decide)) ?_
        refine JO.py (Py.to (Py.conv cnv45_5 xe (m_u8 _)) (v' := vu8 (z / 256 % 256)) (vint (by omega))) ?_
        refine oM ?_
        refine JO.py (Py.to (Py.conv cnv45_5 xe (m_u8 _)) (v' := vu8 (z % 256)) (vint (by omega))) ?_
        refine JO.py (Py.idxS Tryz.underlying22 siz5 xe ev_const (by omega) xidx xmult) ?_
        refine JO.store siz5 xe xe (by first | rfl | assumption) xpick xsize xnorm ?_
        refine JO.py (Py.idxS Tryz.underlying22 siz5 xe ev_const (by omega) xidx xmult) ?_
        refine JO.store siz5 xe xe (by first | rfl | assumption) xpick xsize xnorm ?_
        refine JO.py (Py.idxS Tryz.underlying22 siz5 xe ev_const (by omega) xidx xmult) ?_
        refine JO.store siz5 xe xe (by first | rfl | assumption) xpick xsize xnorm ?_
        refine JO.py (Py.idxS Tryz.underlying22 siz5 xe ev_const (by omega) xidx xmult) ?_
        refine JO.store siz5 xe xe (by first | rfl | assumption) xpick xsize xnorm ?_
        refine JO.nil (JX.blockN (JX.code (JC.region ?_)))
        refine oM ?_
        refine JO.py (Py.add xe ev_const wI) ?_
        refine oA ?_
        refine JO.nil ?_
        refine JX.loop (i + 4, out ++ [z / 16777216 % 256, z / 65536 % 256, z / 256 % 256, z % 256], ((((cur.setIfInBounds (i + 0) (vu8 (z / 16777216 % 256))).setIfInBounds (i + 1) (vu8 (z / 65536 % 256))).setIfInBounds (i + 2) (vu8 (z / 256 % 256))).setIfInBounds (i + 3) (vu8 (z % 256)))) ⟨hW2, hR2, by simp only [Array.size_setIfInBounds]; exact hz2⟩ (by dsimp only; omega) xag xpkE
      · skip
        by_cases q1 : x0 / 4 = 18
        · skip
          have q2 : ¬ x3 % 4 = 1 := fun q => hq ⟨q1, q⟩
          refine JD.py (Py.assign xe) ?_
          refine JD.nilN (JX.code (JC.seq (JC.block (sR ?_))))
          refine oM ?_
          first | refine oD (Py.eql xe ev_const) ?_ | refine oU (Py.eql xe ev_const) ?_ | refine JO.py (Py.eql xe ev_const) ?_
          refine oM ?_
          first | (refine gT ?_; (refine oM ?_)) | refine kF ?_ | refine JO.skipU rfl (Lk.ev (v := undef) xlk rfl) ?_
          first | (refine gT ?_; (refine JO.py (Py.idxS Tryz.underlying22 siz5 xe ev_const (by omega) xidx xmult) ?_)) | refine kF ?_ | refine JO.skipU rfl (Lk.ev (v := undef) xlk rfl) ?_
          first | (refine gT ?_; (refine JO.py (Py.load scal5 xe xpick xrow) ?_)) | refine kF ?_ | refine JO.skipU rfl (Lk.ev (v := undef) xlk rfl) ?_
          first | (refine gT ?_; (refine JO.py (Py.shr 2 4 xe ev_const rfl (by decide) (by decide) (by decide)) ?_)) | refine kF ?_ | refine JO.skipU rfl (Lk.ev (v := undef) xlk rfl) ?_
          first | (refine gT ?_; (first | refine oD (Py.eql xe ev_const) ?_ | refine oU (Py.eql xe ev_const) ?_ | refine JO.py (Py.eql xe ev_const) ?_)) | refine kF ?_ | refine JO.skipU rfl (Lk.ev (v := undef) xlk rfl) ?_
          first | refine JO.py (Py.pickT xe xe) ?_ | refine JO.py (Py.pickF xe ev_const) ?_
          refine oM ?_
          first | (refine gT ?_; (refine oM ?_)) | refine kF ?_ | refine JO.skipU rfl (Lk.ev (v := undef) xlk rfl) ?_
          first | (refine gT ?_; (refine JO.py (Py.idxS Tryz.underlying22 siz5 xe ev_const (by omega) xidx xmult) ?_)) | refine kF ?_ | refine JO.skipU rfl (Lk.ev (v := undef) xlk rfl) ?_
          first | (refine gT ?_; (refine JO.py (Py.load scal5 xe xpick xrow) ?_)) | refine kF ?_ | refine JO.skipU rfl (Lk.ev (v := undef) xlk rfl) ?_
          first | (refine gT ?_; (refine JO.py (Py.mask 2 4 xe ev_const (by decide) (by decide) (by decide) (r_u8 (by omega)) (w_u8 (by omega))) ?_)) | refine kF ?_ | refine JO.skipU rfl (Lk.ev (v := undef) xlk rfl) ?_
          first | (refine gT ?_; (first | refine oD (Py.eql xe ev_const) ?_ | refine oU (Py.eql xe ev_const) ?_ | refine JO.py (Py.eql xe ev_const) ?_)) | refine kF ?_ | refine JO.skipU rfl (Lk.ev (v := undef) xlk rfl) ?_
          first | refine JO.py (Py.pickT xe xe) ?_ | refine JO.py (Py.pickF xe ev_const) ?_
          refine oA ?_
          refine nC ?_
          refine cF ?_
          refine sR ?_
          refine oM ?_
          first | refine oD (Py.eql xe ev_const) ?_ | refine oU (Py.eql xe ev_const) ?_ | refine JO.py (Py.eql xe ev_const) ?_
          refine oM ?_
          first | (refine gT ?_; (refine oM ?_)) | refine kF ?_ | refine JO.skipU rfl (Lk.ev (v := undef) xlk rfl) ?_
          first | (refine gT ?_; (refine JO.py (Py.idxS Tryz.underlying22 siz5 xe ev_const (by omega) xidx xmult) ?_)) | refine kF ?_ | refine JO.skipU rfl (Lk.ev (v := undef) xlk rfl) ?_
          first | (refine gT ?_; (refine JO.py (Py.load scal5 xe xpick xrow) ?_)) | refine kF ?_ | refine JO.skipU rfl (Lk.ev (v := undef) xlk rfl) ?_
          first | (refine gT ?_; (first | refine oD (Py.eql xe ev_const) ?_ | refine oU (Py.eql xe ev_const) ?_ | refine JO.py (Py.eql xe ev_const) ?_)) | refine kF ?_ | refine JO.skipU rfl (Lk.ev (v := undef) xlk rfl) ?_
          first | refine JO.py (Py.pickT xe xe) ?_ | refine JO.py (Py.pickF xe ev_const) ?_
          refine oA ?_
          refine nC ?_
          refine cF ?_
          refine sR ?_
          refine oM ?_
          first | refine oD (Py.eql xe ev_const) ?_ | refine oU (Py.eql xe ev_const) ?_ | refine JO.py (Py.eql xe ev_const) ?_
          refine oM ?_
          first | (refine gT ?_; (refine oM ?_)) | refine kF ?_ | refine JO.skipU rfl (Lk.ev (v := undef) xlk rfl) ?_
          first | (refine gT ?_; (refine JO.py (Py.idxS Tryz.underlying22 siz5 xe ev_const (by omega) xidx xmult) ?_)) | refine kF ?_ | refine JO.skipU rfl (Lk.ev (v := undef) xlk rfl) ?_
          first | (refine gT ?_; (refine JO.py (Py.load scal5 xe xpick xrow) ?_)) | refine kF ?_ | refine JO.skipU rfl (Lk.ev (v := undef) xlk rfl) ?_
          first | (refine gT ?_; (first | refine oD (Py.eql xe ev_const) ?_ | refine oU (Py.eql xe ev_const) ?_ | refine JO.py (Py.eql xe ev_const) ?_)) | refine kF ?_ | refine JO.skipU rfl (Lk.ev (v := undef) xlk rfl) ?_
          first | (refine gT ?_; (refine oM ?_)) | refine kF ?_ | refine JO.skipU rfl (Lk.ev (v := undef) xlk rfl) ?_
          first | (refine gT ?_; (refine oM ?_)) | refine kF ?_ | refine JO.skipU rfl (Lk.ev (v := undef) xlk rfl) ?_
          first | (refine gT ?_; (refine JO.py (Py.idxS Tryz.underlying22 siz5 xe ev_const (by omega) xidx xmult) ?_)) | refine kF ?_ | refine JO.skipU rfl (Lk.ev (v := undef) xlk rfl) ?_
          first | (refine gT ?_; (refine JO.py (Py.load scal5 xe xpick xrow) ?_)) | refine kF ?_ | refine JO.skipU rfl (Lk.ev (v := undef) xlk rfl) ?_
          first | (refine gT ?_; (refine JO.py (Py.andN xe ev_const (r_u8 (by omega)) (r_u8 (by omega)) (by decide)) ?_)) | refine kF ?_ | refine JO.skipU rfl (Lk.ev (v := undef) xlk rfl) ?_
          first | (refine gT ?_; (first | refine oD (Py.eql xe ev_const) ?_ | refine oU (Py.eql xe ev_const) ?_ | refine JO.py (Py.eql xe ev_const) ?_)) | refine kF ?_ | refine JO.skipU rfl (Lk.ev (v := undef) xlk rfl) ?_
          first | (refine gT ?_; (first | refine JO.py (Py.pickT xe xe) ?_ | refine JO.py (Py.pickF xe ev_const) ?_)) | refine kF ?_ | refine JO.skipU rfl (Lk.ev (v := undef) xlk rfl) ?_
          first | (refine gT ?_; (refine oM ?_)) | refine kF ?_ | refine JO.skipU rfl (Lk.ev (v := undef) xlk rfl) ?_
          first | (refine gF ?_; (refine oM ?_)) | refine kT ?_ | refine JO.skipU rfl (Lk.ev (v := undef) xlk rfl) ?_
          first | (refine gF ?_; (refine JO.py (Py.idxS Tryz.underlying22 siz5 xe ev_const (by omega) xidx xmult) ?_)) | refine kT ?_ | refine JO.skipU rfl (Lk.ev (v := undef) xlk rfl) ?_
          first | (refine gF ?_; (refine JO.py (Py.load scal5 xe xpick xrow) ?_)) | refine kT ?_ | refine JO.skipU rfl (Lk.ev (v := undef) xlk rfl) ?_
          first | (refine gF ?_; (first | refine oD (Py.eql xe ev_const) ?_ | refine oU (Py.eql xe ev_const) ?_ | refine JO.py (Py.eql xe ev_const) ?_)) | refine kT ?_ | refine JO.skipU rfl (Lk.ev (v := undef) xlk rfl) ?_
          first | (refine gF ?_; (refine oM ?_)) | refine kT ?_ | refine JO.skipU rfl (Lk.ev (v := undef) xlk rfl) ?_
          first | (refine gT ?_; (refine oM ?_)) | refine kF ?_ | refine JO.skipU rfl (Lk.ev (v := undef) xlk rfl) ?_
          first | (refine gT ?_; (refine JO.py (Py.idxS Tryz.underlying22 siz5 xe ev_const (by omega) xidx xmult) ?_)) | refine kF ?_ | refine JO.skipU rfl (Lk.ev (v := undef) xlk rfl) ?_
          first | (refine gT ?_; (refine JO.py (Py.load scal5 xe xpick xrow) ?_)) | refine kF ?_ | refine JO.skipU rfl (Lk.ev (v := undef) xlk rfl) ?_
          first | (refine gT ?_; (refine JO.py (Py.andN xe ev_const (r_u8 (by omega)) (r_u8 (by omega)) (by decide)) ?_)) | refine kF ?_ | refine JO.skipU rfl (Lk.ev (v := undef) xlk rfl) ?_
          first | (refine gT ?_; (first | refine oD (Py.eql xe ev_const) ?_ | refine oU (Py.eql xe ev_const) ?_ | refine JO.py (Py.eql xe ev_const) ?_)) | refine kF ?_ | refine JO.skipU rfl (Lk.ev (v := undef) xlk rfl) ?_
          first | (refine gF ?_; (first | refine JO.py (Py.pickT xe xe) ?_ | refine JO.py (Py.pickF xe ev_const) ?_)) | refine kT ?_ | refine JO.skipU rfl (Lk.ev (v := undef) xlk rfl) ?_
          first | (refine gT ?_; (first | refine JO.py (Py.pickT xe ev_const) ?_ | refine JO.py (Py.pickF xe xe) ?_)) | refine kF ?_ | refine JO.skipU rfl (Lk.ev (v := undef) xlk rfl) ?_
          first | refine JO.py (Py.pickT xe xe) ?_ | refine JO.py (Py.pickF xe ev_const) ?_
          refine oA ?_
          refine nC ?_
          refine cF ?_
          refine JC.exit (JX.blockO rfl (JX.exit (JX.blockE (JX.code (JC.region ?_)))))
          refine oM ?_
          refine JO.py (Py.add xe ev_const wI) ?_
          refine oA ?_
          refine JO.nil ?_
          have hW2 := hW.word (y := (x0, x1, x2, x3)) (by omega) (by rw [Nat.zero_add, show bs.getD i 0 = x0 from e0, e1, e2, e3]; exact Bx.ppcE_f hq)
          refine JX.loop (i + 4, out ++ [x0, x1, x2, x3], cur) ⟨hW2, by dsimp only; rw [← e0, ← e1, ← e2, ← e3]; show RdOk cur 0 ((out ++ [bs.getD i 0, bs.getD (i + 1) 0, bs.getD (i + 2) 0, bs.getD (i + 3) 0]) ++ bs.drop (i + 4)); rw [Bx.cat_keep (by omega)]; exact hR, hz2⟩ (by dsimp only; omega) xag xpkE
        · skip
          refine JD.py (Py.assign xe) ?_
          refine JD.nilN (JX.code (JC.seq (JC.block (sR ?_))))
          refine oM ?_
          first | refine oD (Py.eql xe ev_const) ?_ | refine oU (Py.eql xe ev_const) ?_ | refine JO.py (Py.eql xe ev_const) ?_
          refine oM ?_
          first | (refine gT ?_; (refine oM ?_)) | refine kF ?_ | refine JO.skipU rfl (Lk.ev (v := undef) xlk rfl) ?_
          first | (refine gT ?_; (refine JO.py (Py.idxS Tryz.underlying22 siz5 xe ev_const (by omega) xidx xmult) ?_)) | refine kF ?_ | refine JO.skipU rfl (Lk.ev (v := undef) xlk rfl) ?_
          first | (refine gT ?_; (refine JO.py (Py.load scal5 xe xpick xrow) ?_)) | refine kF ?_ | refine JO.skipU rfl (Lk.ev (v := undef) xlk rfl) ?_
          first | (refine gT ?_; (refine JO.py (Py.shr 2 4 xe ev_const rfl (by decide) (by decide) (by decide)) ?_)) | refine kF ?_ | refine JO.skipU rfl (Lk.ev (v := undef) xlk rfl) ?_
          first | (refine gT ?_; (first | refine oD (Py.eql xe ev_const) ?_ | refine oU (Py.eql xe ev_const) ?_ | refine JO.py (Py.eql xe ev_const) ?_)) | refine kF ?_ | refine JO.skipU rfl (Lk.ev (v := undef) xlk rfl) ?_
          first | refine JO.py (Py.pickT xe xe) ?_ | refine JO.py (Py.pickF xe ev_const) ?_
          refine oM ?_
          first | (refine gT ?_; (refine oM ?_)) | refine kF ?_ | refine JO.skipU rfl (Lk.ev (v := undef) xlk rfl) ?_
          first | (refine gT ?_; (refine JO.py (Py.idxS Tryz.underlying22 siz5 xe ev_const (by omega) xidx xmult) ?_)) | refine kF ?_ | refine JO.skipU rfl (Lk.ev (v := undef) xlk rfl) ?_
          first | (refine gT ?_; (refine JO.py (Py.load scal5 xe xpick xrow) ?_)) | refine kF ?_ | refine JO.skipU rfl (Lk.ev (v := undef) xlk rfl) ?_
          first | (refine gT ?_; (refine JO.py (Py.mask 2 4 xe ev_const (by decide) (by decide) (by decide) (r_u8 (by omega)) (w_u8 (by omega))) ?_)) | refine kF ?_ | refine JO.skipU rfl (Lk.ev (v := undef) xlk rfl) ?_
          first | (refine gT ?_; (first | refine oD (Py.eql xe ev_const) ?_ | refine oU (Py.eql xe ev_const) ?_ | refine JO.py (Py.eql xe ev_const) ?_)) | refine kF ?_ | refine JO.skipU rfl (Lk.ev (v := undef) xlk rfl) ?_
          first | refine JO.py (Py.pickT xe xe) ?_ | refine JO.py (Py.pickF xe ev_const) ?_
          refine oA ?_
          refine nC ?_
          refine cF ?_
          refine sR ?_
          refine oM ?_
          first | refine oD (Py.eql xe ev_const) ?_ | refine oU (Py.eql xe ev_const) ?_ | refine JO.py (Py.eql xe ev_const) ?_
          refine oM ?_
          first | (refine gT ?_; (refine oM ?_)) | refine kF ?_ | refine JO.skipU rfl (Lk.ev (v := undef) xlk rfl) ?_
          first | (refine gT ?_; (refine JO.py (Py.idxS Tryz.underlying22 siz5 xe ev_const (by omega) xidx xmult) ?_)) | refine kF ?_ | refine JO.skipU rfl (Lk.ev (v := undef) xlk rfl) ?_
          first | (refine gT ?_; (refine JO.py (Py.load scal5 xe xpick xrow) ?_)) | refine kF ?_ | refine JO.skipU rfl (Lk.ev (v := undef) xlk rfl) ?_
          first | (refine gT ?_; (first | refine oD (Py.eql xe ev_const) ?_ | refine oU (Py.eql xe ev_const) ?_ | refine JO.py (Py.eql xe ev_const) ?_)) | refine kF ?_ | refine JO.skipU rfl (Lk.ev (v := undef) xlk rfl) ?_
          first | refine JO.py (Py.pickT xe xe) ?_ | refine JO.py (Py.pickF xe ev_const) ?_
          refine oA ?_
          refine nC ?_
          refine cF ?_
          refine sR ?_
          refine oM ?_
          first | refine oD (Py.eql xe ev_const) ?_ | refine oU (Py.eql xe ev_const) ?_ | refine JO.py (Py.eql xe ev_const) ?_
          refine oM ?_
          first | (refine gT ?_; (refine oM ?_)) | refine kF ?_ | refine JO.skipU rfl (Lk.ev (v := undef) xlk rfl) ?_
          first | (refine gT ?_; (refine JO.py (Py.idxS Tryz.underlying22 siz5 xe ev_const (by omega) xidx xmult) ?_)) | refine kF ?_ | refine JO.skipU rfl (Lk.ev (v := undef) xlk rfl) ?_
          first | (refine gT ?_; (refine JO.py (Py.load scal5 xe xpick xrow) ?_)) | refine kF ?_ | refine JO.skipU rfl (Lk.ev (v := undef) xlk rfl) ?_
          first | (refine gT ?_; (first | refine oD (Py.eql xe ev_const) ?_ | refine oU (Py.eql xe ev_const) ?_ | refine JO.py (Py.eql xe ev_const) ?_)) | refine kF ?_ | refine JO.skipU rfl (Lk.ev (v := undef) xlk rfl) ?_
          first | (refine gT ?_; (refine oM ?_)) | refine kF ?_ | refine JO.skipU rfl (Lk.ev (v := undef) xlk rfl) ?_
          first | (refine gT ?_; (refine oM ?_)) | refine kF ?_ | refine JO.skipU rfl (Lk.ev (v := undef) xlk rfl) ?_
          first | (refine gT ?_; (refine JO.py (Py.idxS Tryz.underlying22 siz5 xe ev_const (by omega) xidx xmult) ?_)) | refine kF ?_ | refine JO.skipU rfl (Lk.ev (v := undef) xlk rfl) ?_
          first | (refine gT ?_; (refine JO.py (Py.load scal5 xe xpick xrow) ?_)) | refine kF ?_ | refine JO.skipU rfl (Lk.ev (v := undef) xlk rfl) ?_
          first | (refine gT ?_; (refine JO.py (Py.andN xe ev_const (r_u8 (by omega)) (r_u8 (by omega)) (by decide)) ?_)) | refine kF ?_ | refine JO.skipU rfl (Lk.ev (v := undef) xlk rfl) ?_
          first | (refine gT ?_; (first | refine oD (Py.eql xe ev_const) ?_ | refine oU (Py.eql xe ev_const) ?_ | refine JO.py (Py.eql xe ev_const) ?_)) | refine kF ?_ | refine JO.skipU rfl (Lk.ev (v := undef) xlk rfl) ?_
          first | (refine gT ?_; (first | refine JO.py (Py.pickT xe xe) ?_ | refine JO.py (Py.pickF xe ev_const) ?_)) | refine kF ?_ | refine JO.skipU rfl (Lk.ev (v := undef) xlk rfl) ?_
          first | (refine gT ?_; (refine oM ?_)) | refine kF ?_ | refine JO.skipU rfl (Lk.ev (v := undef) xlk rfl) ?_
          first | (refine gF ?_; (refine oM ?_)) | refine kT ?_ | refine JO.skipU rfl (Lk.ev (v := undef) xlk rfl) ?_
          first | (refine gF ?_; (refine JO.py (Py.idxS Tryz.underlying22 siz5 xe ev_const (by omega) xidx xmult) ?_)) | refine kT ?_ | refine JO.skipU rfl (Lk.ev (v := undef) xlk rfl) ?_
          first | (refine gF ?_; (refine JO.py (Py.load scal5 xe xpick xrow) ?_)) | refine kT ?_ | refine JO.skipU rfl (Lk.ev (v := undef) xlk rfl) ?_
          first | (refine gF ?_; (first | refine oD (Py.eql xe ev_const) ?_ | refine oU (Py.eql xe ev_const) ?_ | refine JO.py (Py.eql xe ev_const) ?_)) | refine kT ?_ | refine JO.skipU rfl (Lk.ev (v := undef) xlk rfl) ?_
          first | (refine gF ?_; (refine oM ?_)) | refine kT ?_ | refine JO.skipU rfl (Lk.ev (v := undef) xlk rfl) ?_
          first | (refine gT ?_; (refine oM ?_)) | refine kF ?_ | refine JO.skipU rfl (Lk.ev (v := undef) xlk rfl) ?_
          first | (refine gT ?_; (refine JO.py (Py.idxS Tryz.underlying22 siz5 xe ev_const (by omega) xidx xmult) ?_)) | refine kF ?_ | refine JO.skipU rfl (Lk.ev (v := undef) xlk rfl) ?_
          first | (refine gT ?_; (refine JO.py (Py.load scal5 xe xpick xrow) ?_)) | refine kF ?_ | refine JO.skipU rfl (Lk.ev (v := undef) xlk rfl) ?_
          first | (refine gT ?_; (refine JO.py (Py.andN xe ev_const (r_u8 (by omega)) (r_u8 (by omega)) (by decide)) ?_)) | refine kF ?_ | refine JO.skipU rfl (Lk.ev (v := undef) xlk rfl) ?_
          first | (refine gT ?_; (first | refine oD (Py.eql xe ev_const) ?_ | refine oU (Py.eql xe ev_const) ?_ | refine JO.py (Py.eql xe ev_const) ?_)) | refine kF ?_ | refine JO.skipU rfl (Lk.ev (v := undef) xlk rfl) ?_
          first | (refine gF ?_; (first | refine JO.py (Py.pickT xe xe) ?_ | refine JO.py (Py.pickF xe ev_const) ?_)) | refine kT ?_ | refine JO.skipU rfl (Lk.ev (v := undef) xlk rfl) ?_
          first | (refine gT ?_; (first | refine JO.py (Py.pickT xe ev_const) ?_ | refine JO.py (Py.pickF xe xe) ?_)) | refine kF ?_ | refine JO.skipU rfl (Lk.ev (v := undef) xlk rfl) ?_
          first | refine JO.py (Py.pickT xe xe) ?_ | refine JO.py (Py.pickF xe ev_const) ?_
          refine oA ?_
          refine nC ?_
          refine cF ?_
          refine JC.exit (JX.blockO rfl (JX.exit (JX.blockE (JX.code (JC.region ?_)))))
          refine oM ?_
          refine JO.py (Py.add xe ev_const wI) ?_
          refine oA ?_
          refine JO.nil ?_
          have hW2 := hW.word (y := (x0, x1, x2, x3)) (by omega) (by rw [Nat.zero_add, show bs.getD i 0 = x0 from e0, e1, e2, e3]; exact Bx.ppcE_f hq)
          refine JX.loop (i + 4, out ++ [x0, x1, x2, x3], cur) ⟨hW2, by dsimp only; rw [← e0, ← e1, ← e2, ← e3]; show RdOk cur 0 ((out ++ [bs.getD i 0, bs.getD (i + 1) 0, bs.getD (i + 2) 0, bs.getD (i + 3) 0]) ++ bs.drop (i + 4)); rw [Bx.cat_keep (by omega)]; exact hR, hz2⟩ (by dsimp only; omega) xag xpkE
    · skip
      refine JC.seq (sR ?_)
      refine oM ?_
      refine JO.py (Py.add xe ev_const wI) ?_
      refine oM ?_
      refine JO.py (Py.lenS Tryz.underlying22 xe) ?_
      first | refine oD (Py.leq xe xe) ?_ | refine oU (Py.leq xe xe) ?_ | refine JO.py (Py.leq xe xe) ?_
      refine nC ?_
      refine cF ?_
      refine JC.exit (JX.exit (JX.exit (JX.blockE (JX.code (sR ?_)))))
      refine oM ?_
      refine oA ?_
      refine nC (JC.ret ?_)
      have hlast := hW.last (by omega)
      refine JX.torow (b := rb) (e := 5) (m := bl) (cap := rc) (xs := u8s (Bx.wmap Bx.ppcE 0 bs)) xpick (by rw [← hlast]; exact hR.row hz2 (by rw [Bx.cat_len hlen hle]; omega) hrlt) (by rw [u8s_len, ← hlast, Bx.cat_len hlen hle]; exact hbl) ?_
      refine JX.end1 (Or.inl rfl) (_) Tryz.results13 ((xe).trans (by first | exact xval | (dsimp only; exact xval))) xpkE
set_option maxRecDepth 100000 in
set_option maxHeartbeats 4000000 in
theorem spec2_con (G : Gst) (bb ob bl bc : Nat) (ba : Option Addr) (hba : 0 < bl → ba = some ⟨bb, ob, none⟩ ∧ bl ≤ bc) (cs : Array Value) (Tb : TypeId) (fr : Nat × Nat) (bs : List Nat) (hb : RdOk cs ob bs) (hbl : bs.length = bl) (h3 : bl ≤ 3000) :
    Con Tryz.prog G 13 #[.int .i64 ((2 : Nat) : Int), .slice ba bl bc] [blk bb (.cells cs Tb fr)] (fun x : Value => x) (fun x => [Row 5 x (u8s (encK 2 bs)), blk bb (.cells cs Tb fr)]) := by
  have hby : Bx.Byte bs := hb.lt
  show Con Tryz.prog G 13 #[.int .i64 ((2 : Nat) : Int), .slice ba bl bc] [blk bb (.cells cs Tb fr)] (fun x : Value => x) (fun x => [Row 5 x (u8s (Bx.wmap Bx.armE 0 bs)), blk bb (.cells cs Tb fr)])
  refine Con.intro Tryz.func13 rfl (by kernel_rfl) Tryz.ntmps13 (Nat.le_of_ble_eq_true rfl) ?_
  intro F
  show JC _ _ _ _ _ _ [(0, _), (1, _)] _ [_, _]
  refine sR ?_
  refine oC ?_
  refine nC (JC.seq (sR ?_))
  refine oM ?_
  first | refine oD (Py.eql xe ev_const) ?_ | refine oU (Py.eql xe ev_const) ?_ | refine JO.py (Py.eql xe ev_const) ?_
  refine nC ?_
  refine cF ?_
  refine JC.skip (JX.code (sR ?_))
  refine JO.bslice Tryz.underlying22 elm5 Evs.nil rfl rfl (by first | (simp [Value.oneCell']; done) | (simp only [List.mem_cons, List.not_mem_nil, or_false, forall_eq]; assumption) | fail) (by decide) ?_; intro b16
  refine oM ?_
  refine JO.toRow (b := b16) (e := 5) (cur := #[]) (xs := u8s []) (m := 0) xpick rfl rfl (by decide) ?_
  refine JO.app Tryz.underlying22 elm5 xe xe xpick (Src.text rfl hba xpick hb hbl) (by simp [u8s]; omega) (by decide) ?_
  intro v18 ho18
  rw [show u8s [] ++ u8s bs = u8s bs from rfl]
  refine oA ?_
  refine nC (JC.seq (sR ?_))
  refine oC ?_
  refine nC (JC.block ?_)
  rcases Nat.eq_zero_or_pos bl with hz | hz
  · skip
    subst hz
    obtain rfl : bs = [] := List.eq_nil_of_length_eq_zero hbl
    have he : Bx.wmap Bx.armE 0 [] = [] := rfl
    rw [he]
    refine JC.rowV (e := 5) (v := v18) (xs := u8s []) xpick ?_
    rintro ra rc hv18 -
    rw [show (u8s []).length = 0 from rfl] at hv18
    subst hv18
    refine JC.unroll 0 ?_
    refine JC.seq (sR ?_)
    refine oM ?_
    refine JO.py (Py.add xe ev_const wI) ?_
    refine oM ?_
    refine JO.py (Py.lenS Tryz.underlying22 xe) ?_
    first | refine oD (Py.leq xe xe) ?_ | refine oU (Py.leq xe xe) ?_ | refine JO.py (Py.leq xe xe) ?_
    refine nC ?_
    refine cF ?_
    refine JC.exit (JX.exit (JX.exit (JX.blockE (JX.code (sR ?_)))))
    refine oM ?_
    refine oA ?_
    refine nC (JC.ret ?_)
    refine JX.end1 (Or.inl rfl) (_) Tryz.results13 ((xe).trans (by first | exact xval | (dsimp only; exact xval))) xpkE
  · skip
    refine JC.unrow (e := 5) (v := v18) (xs := u8s bs) xpick (by intro h; have := congrArg List.length h; rw [u8s_len, hbl] at this; exact absurd this (by show ¬ bl = 0; omega)) ?_
    rintro rb rc rcur rfl hrr
    rw [u8s_len, hbl]
    have hr0 := hrr.rd hby
    have hrs := hrr.size
    have hrle := hrr.le
    have hrlt := hrr.lt
    rw [u8s_len, hbl] at hrle
    refine JC.loop (ι := Nat × List Nat × Array Value) (fun x => Bx.WmP Bx.armE 0 bs x.1 x.2.1 ∧ RdOk x.2.2 0 (x.2.1 ++ bs.drop x.1) ∧ x.2.2.size = rc) (fun x => [(0, .int .i64 ((2 : Nat) : Int)), (5, .slice (some ⟨rb, 0, none⟩) bl rc), (6, .int .i64 (x.1 : Nat))]) (fun x => [cel rb 5 x.2.2, blk bb (.cells cs Tb fr), F]) (fun x => bl - x.1) (0, [], rcur) ⟨Bx.WmP.zero, by simpa using hr0, hrs⟩ xag xpkE ?_
    rintro ⟨i, out, cur⟩ base' ⟨hW, hR, hz2⟩
    dsimp only at hW hR hz2 ⊢
    have hle := hW.le
    have hlen := hW.len
    have hmod := hW.mod
    by_cases hp : i + 4 ≤ bl
    · skip
      obtain ⟨x0, e0⟩ : ∃ x, bs.getD (i + 0) 0 = x := ⟨_, rfl⟩
      obtain ⟨x1, e1⟩ : ∃ x, bs.getD (i + 1) 0 = x := ⟨_, rfl⟩
      obtain ⟨x2, e2⟩ : ∃ x, bs.getD (i + 2) 0 = x := ⟨_, rfl⟩
      obtain ⟨x3, e3⟩ : ∃ x, bs.getD (i + 3) 0 = x := ⟨_, rfl⟩
      obtain ⟨c0, l0⟩ := win0 (p := i + 0) hR hlen (by omega) rfl e0
      obtain ⟨c1, l1⟩ := win0 (p := i + 1) hR hlen (by omega) rfl e1
      obtain ⟨c2, l2⟩ := win0 (p := i + 2) hR hlen (by omega) rfl e2
      obtain ⟨c3, l3⟩ := win0 (p := i + 3) hR hlen (by omega) rfl e3
      have hwl := Bx.be_lt5 l0 l1 l2 l3
      obtain ⟨w, hw⟩ : ∃ w, Bx.be (x0, x1, x2, x3) = w := ⟨_, rfl⟩
      rw [hw] at hwl
      have hws : 16777216 * x0 + 65536 * x1 + 256 * x2 + x3 = w := hw
      refine JC.seq (sR ?_)
      refine oM ?_
      refine JO.py (Py.add xe ev_const wI) ?_
      refine oM ?_
      refine JO.py (Py.lenS Tryz.underlying22 xe) ?_
      first | refine oD (Py.leq xe xe) ?_ | refine oU (Py.leq xe xe) ?_ | refine JO.py (Py.leq xe xe) ?_
      refine nC ?_
      refine cT ?_
      refine JC.skip (JX.code (JC.seq (JC.block (sR ?_))))
      refine oM ?_
      refine oM ?_
      refine oM ?_
      refine JO.py (Py.add xe ev_const wI) ?_
      refine JO.py (Py.slc (l := i) (h := i + 4) (p := i) (q := 4) (c := rc - i) Tryz.underlying22 siz5 xe (Bd.some xe (by omega)) (Bd.some xe (by omega)) (by omega) (by omega) (by omega) (by omega) (by omega) (by omega)) ?_
      refine oA ?_
      refine nC (JC.seq ?_)
      refine JC.regionD mixed (by kernel_rfl) ?_
      refine JD.py (Py.move xe) ?_
      refine JD.py (Py.idxS Tryz.underlying22 siz5 xe ev_const (by omega) xidx xmult) ?_
      refine JD.py (Py.load scal5 xe xpick xrow) ?_
      first | refine JD.py (Py.conv cnv5_45 xe (w_u32 (by omega))) ?_ | refine JD.py (Py.conv cnv5_45 xe (m_u32 _)) ?_
      first | refine JD.py (Py.shl 24 16777216 xe ev_const rfl (by decide) (by decide) (w_u32 (by omega))) ?_ | refine JD.py (Py.shl 24 16777216 xe ev_const rfl (by decide) (by decide) (m_u32 _)) ?_
      refine JD.py (Py.move xe) ?_
      refine JD.py (Py.idxS Tryz.underlying22 siz5 xe ev_const (by omega) xidx xmult) ?_
      refine JD.py (Py.load scal5 xe xpick xrow) ?_
      first | refine JD.py (Py.conv cnv5_45 xe (w_u32 (by omega))) ?_ | refine JD.py (Py.conv cnv5_45 xe (m_u32 _)) ?_
      first | refine JD.py (Py.shl 16 65536 xe ev_const rfl (by decide) (by decide) (w_u32 (by omega))) ?_ | refine JD.py (Py.shl 16 65536 xe ev_const rfl (by decide) (by decide) (m_u32 _)) ?_
      refine JD.py (Py.to (Py.orN xe xe (r_u32 (by omega)) (r_u32 (by omega)) (by decide)) (v' := .int .u32 (16777216 * x0 + 65536 * x1 : Nat)) (vint (or_int (x := 16777216 * x0) (y := 65536 * x1) (by omega) (by omega) ((or_at (k := 24) (a := x0) (b := 0) (by omega) (by omega)).trans (rfl))))) ?_
      refine JD.py (Py.move xe) ?_
      refine JD.py (Py.idxS Tryz.underlying22 siz5 xe ev_const (by omega) xidx xmult) ?_
      refine JD.py (Py.load scal5 xe xpick xrow) ?_
      first | refine JD.py (Py.conv cnv5_45 xe (w_u32 (by omega))) ?_ | refine JD.py (Py.conv cnv5_45 xe (m_u32 _)) ?_
      first | refine JD.py (Py.shl 8 256 xe ev_const rfl (by decide) (by decide) (w_u32 (by omega))) ?_ | refine JD.py (Py.shl 8 256 xe ev_const rfl (by decide) (by decide) (m_u32 _)) ?_
      refine JD.py (Py.to (Py.orN xe xe (r_u32 (by omega)) (r_u32 (by omega)) (by decide)) (v' := .int .u32 (16777216 * x0 + 65536 * x1 + 256 * x2 : Nat)) (vint (or_int (x := 16777216 * x0 + 65536 * x1) (y := 256 * x2) (by omega) (by omega) ((or_at (k := 16) (a := 256 * x0 + x1) (b := 0) (by omega) (by omega)).trans (rfl))))) ?_
      refine JD.py (Py.move xe) ?_
      refine JD.py (Py.idxS Tryz.underlying22 siz5 xe ev_const (by omega) xidx xmult) ?_
      refine JD.py (Py.load scal5 xe xpick xrow) ?_
      first | refine JD.py (Py.conv cnv5_45 xe (w_u32 (by omega))) ?_ | refine JD.py (Py.conv cnv5_45 xe (m_u32 _)) ?_
      refine JD.py (Py.to (Py.orN xe xe (r_u32 (by omega)) (r_u32 (by omega)) (by decide)) (v' := .int .u32 (w : Nat)) (vint (or_int (x := 16777216 * x0 + 65536 * x1 + 256 * x2) (y := x3) (by omega) (by omega) ((or_at (k := 8) (a := 65536 * x0 + 256 * x1 + x2) (b := 0) (by omega) (by omega)).trans (hws))))) ?_
      refine JD.py (Py.assign xe) ?_
      refine JD.nilN (JX.code (JC.seq (JC.block (sR ?_))))
      refine oM ?_
      first | refine oD (Py.eql xe ev_const) ?_ | refine oU (Py.eql xe ev_const) ?_ | refine JO.py (Py.eql xe ev_const) ?_
      refine oM ?_
      first | (refine gT ?_; (refine oM ?_)) | refine kF ?_ | refine JO.skipU rfl (Lk.ev (v := undef) xlk rfl) ?_
      first | (refine gT ?_; (refine JO.py (Py.idxS Tryz.underlying22 siz5 xe ev_const (by omega) xidx xmult) ?_)) | refine kF ?_ | refine JO.skipU rfl (Lk.ev (v := undef) xlk rfl) ?_
      first | (refine gT ?_; (refine JO.py (Py.load scal5 xe xpick xrow) ?_)) | refine kF ?_ | refine JO.skipU rfl (Lk.ev (v := undef) xlk rfl) ?_
      first | (refine gT ?_; (refine JO.py (Py.shr 2 4 xe ev_const rfl (by decide) (by decide) (by decide)) ?_)) | refine kF ?_ | refine JO.skipU rfl (Lk.ev (v := undef) xlk rfl) ?_
      first | (refine gT ?_; (first | refine oD (Py.eql xe ev_const) ?_ | refine oU (Py.eql xe ev_const) ?_ | refine JO.py (Py.eql xe ev_const) ?_)) | refine kF ?_ | refine JO.skipU rfl (Lk.ev (v := undef) xlk rfl) ?_
      first | refine JO.py (Py.pickT xe xe) ?_ | refine JO.py (Py.pickF xe ev_const) ?_
      refine oM ?_
      first | (refine gT ?_; (refine oM ?_)) | refine kF ?_ | refine JO.skipU rfl (Lk.ev (v := undef) xlk rfl) ?_
      first | (refine gT ?_; (refine JO.py (Py.idxS Tryz.underlying22 siz5 xe ev_const (by omega) xidx xmult) ?_)) | refine kF ?_ | refine JO.skipU rfl (Lk.ev (v := undef) xlk rfl) ?_
      first | (refine gT ?_; (refine JO.py (Py.load scal5 xe xpick xrow) ?_)) | refine kF ?_ | refine JO.skipU rfl (Lk.ev (v := undef) xlk rfl) ?_
      first | (refine gT ?_; (refine JO.py (Py.mask 2 4 xe ev_const (by decide) (by decide) (by decide) (r_u8 (by omega)) (w_u8 (by omega))) ?_)) | refine kF ?_ | refine JO.skipU rfl (Lk.ev (v := undef) xlk rfl) ?_
      first | (refine gT ?_; (first | refine oD (Py.eql xe ev_const) ?_ | refine oU (Py.eql xe ev_const) ?_ | refine JO.py (Py.eql xe ev_const) ?_)) | refine kF ?_ | refine JO.skipU rfl (Lk.ev (v := undef) xlk rfl) ?_
      first | refine JO.py (Py.pickT xe xe) ?_ | refine JO.py (Py.pickF xe ev_const) ?_
      refine oA ?_
      refine nC ?_
      refine cF ?_
      by_cases hq : x3 = 235
      · skip
        obtain ⟨D, hD⟩ : ∃ D, x0 + 256 * x1 + 65536 * x2 + (i + 8) / 4 = D := ⟨_, rfl⟩
        refine sR ?_
        refine oM ?_
        first | refine oD (Py.eql xe ev_const) ?_ | refine oU (Py.eql xe ev_const) ?_ | refine JO.py (Py.eql xe ev_const) ?_
        refine oM ?_
        first | (refine gT ?_; (refine oM ?_)) | refine kF ?_ | refine JO.skipU rfl (Lk.ev (v := undef) xlk rfl) ?_
        first | (refine gT ?_; (refine JO.py (Py.idxS Tryz.underlying22 siz5 xe ev_const (by omega) xidx xmult) ?_)) | refine kF ?_ | refine JO.skipU rfl (Lk.ev (v := undef) xlk rfl) ?_
        first | (refine gT ?_; (refine JO.py (Py.load scal5 xe xpick xrow) ?_)) | refine kF ?_ | refine JO.skipU rfl (Lk.ev (v := undef) xlk rfl) ?_
        first | (refine gT ?_; (first | refine oD (Py.eql xe ev_const) ?_ | refine oU (Py.eql xe ev_const) ?_ | refine JO.py (Py.eql xe ev_const) ?_)) | refine kF ?_ | refine JO.skipU rfl (Lk.ev (v := undef) xlk rfl) ?_
        first | refine JO.py (Py.pickT xe xe) ?_ | refine JO.py (Py.pickF xe ev_const) ?_
        refine oA ?_
        refine nC ?_
        refine cT ?_
        refine JC.seq ?_
        refine JC.regionD mixed (by kernel_rfl) ?_
        refine JD.py (Py.move xe) ?_
        refine JD.py (Py.idxS Tryz.underlying22 siz5 xe ev_const (by omega) xidx xmult) ?_
        refine JD.py (Py.load scal5 xe xpick xrow) ?_
        first | refine JD.py (Py.conv cnv5_45 xe (w_u32 (by omega))) ?_ | refine JD.py (Py.conv cnv5_45 xe (m_u32 _)) ?_
        first | refine JD.py (Py.shl 16 65536 xe ev_const rfl (by decide) (by decide) (w_u32 (by omega))) ?_ | refine JD.py (Py.shl 16 65536 xe ev_const rfl (by decide) (by decide) (m_u32 _)) ?_
        refine JD.py (Py.move xe) ?_
        refine JD.py (Py.idxS Tryz.underlying22 siz5 xe ev_const (by omega) xidx xmult) ?_
        refine JD.py (Py.load scal5 xe xpick xrow) ?_
        first | refine JD.py (Py.conv cnv5_45 xe (w_u32 (by omega))) ?_ | refine JD.py (Py.conv cnv5_45 xe (m_u32 _)) ?_
        first | refine JD.py (Py.shl 8 256 xe ev_const rfl (by decide) (by decide) (w_u32 (by omega))) ?_ | refine JD.py (Py.shl 8 256 xe ev_const rfl (by decide) (by decide) (m_u32 _)) ?_
        refine JD.py (Py.to (Py.orN xe xe (r_u32 (by omega)) (r_u32 (by omega)) (by decide)) (v' := .int .u32 (65536 * x2 + 256 * x1 : Nat)) (vint (or_int (x := 65536 * x2) (y := 256 * x1) (by omega) (by omega) ((or_at (k := 16) (a := x2) (b := 0) (by omega) (by omega)).trans (rfl))))) ?_
        refine JD.py (Py.move xe) ?_
        refine JD.py (Py.idxS Tryz.underlying22 siz5 xe ev_const (by omega) xidx xmult) ?_
        refine JD.py (Py.load scal5 xe xpick xrow) ?_
        first | refine JD.py (Py.conv cnv5_45 xe (w_u32 (by omega))) ?_ | refine JD.py (Py.conv cnv5_45 xe (m_u32 _)) ?_
        refine JD.py (Py.to (Py.orN xe xe (r_u32 (by omega)) (r_u32 (by omega)) (by decide)) (v' := .int .u32 (65536 * x2 + 256 * x1 + x0 : Nat)) (vint (or_int (x := 65536 * x2 + 256 * x1) (y := x0) (by omega) (by omega) ((or_at (k := 8) (a := 256 * x2 + x1) (b := 0) (by omega) (by omega)).trans (rfl))))) ?_
        have hW2 := hW.word (y := (D % 256, D / 256 % 256, D / 65536 % 256, x3)) (by omega) (by rw [Nat.zero_add, show bs.getD i 0 = x0 from e0, e1, e2, e3]; exact Bx.armE_t hq hD)
        have hR2 := put3_ok (y0 := D % 256) (y1 := D / 256 % 256) (y2 := D / 65536 % 256) hR hW.len (by omega) (by omega) e3 (by omega) (by omega) (by omega)
        have h4D : 4 * (x0 + 256 * x1 + 65536 * x2) + i + 8 = 4 * D := by omega
        first | refine JD.py (Py.shl 2 4 xe ev_const rfl (by decide) (by decide) (w_u32 (by omega))) ?_ | refine JD.py (Py.shl 2 4 xe ev_const rfl (by decide) (by decide) (m_u32 _)) ?_
        refine JD.py (Py.move xe) ?_
        first | refine JD.py (Py.conv cnv3_45 xe (w_u32 (by omega))) ?_ | refine JD.py (Py.conv cnv3_45 xe (m_u32 _)) ?_
        first | refine JD.py (Py.add xe xe (w_u32 (by omega))) ?_ | refine JD.py (Py.add xe xe (m_u32 _)) ?_
        refine JD.py (Py.to (Py.add xe ev_const (w_u32 (by omega))) (v' := .int .u32 (4 * D : Nat)) (vint (by omega))) ?_
        refine JD.py (Py.assign xe) ?_
        refine JD.nilN (JX.code (sR ?_))
        refine oM ?_
        refine oM ?_
        refine oM ?_
        refine oM ?_
        refine JO.py (Py.to (Py.shr 2 4 xe ev_const rfl (by decide) (by decide) (by decide)) (v' := .int .u32 (D : Nat)) (vint (by omega))) ?_
        refine JO.py (Py.to (Py.conv cnv45_5 xe (m_u8 _)) (v' := vu8 (D % 256)) (vint (by omega))) ?_
        refine oM ?_
        refine JO.py (Py.to (Py.shr 10 1024 xe ev_const rfl (by decide) (by decide) (by decide)) (v' := .int .u32 (D / 256 : Nat)) (vint (by omega))) ?_
        refine JO.py (Py.to (Py.conv cnv45_5 xe (m_u8 _)) (v' := vu8 (D / 256 % 256)) (vint (by omega))) ?_
        refine oM ?_
        refine JO.py (Py.to (Py.shr 18 262144 xe ev_const rfl (by decide) (by decide) (by decide)) (v' := .int .u32 (D / 65536 : Nat)) (vint (by omega))) ?_
        refine JO.py (Py.to (Py.conv cnv45_5 xe (m_u8 _)) (v' := vu8 (D / 65536 % 256)) (vint (by omega))) ?_
        refine JO.py (Py.idxS Tryz.underlying22 siz5 xe ev_const (by omega) xidx xmult) ?_
        refine JO.store siz5 xe xe (by first | rfl | assumption) xpick xsize xnorm ?_
        refine JO.py (Py.idxS Tryz.underlying22 siz5 xe ev_const (by omega) xidx xmult) ?_
        refine JO.store siz5 xe xe (by first | rfl | assumption) xpick xsize xnorm ?_
        refine JO.py (Py.idxS Tryz.underlying22 siz5 xe ev_const (by omega) xidx xmult) ?_
        refine JO.store siz5 xe xe (by first | rfl | assumption) xpick xsize xnorm ?_
        refine nC (JC.exit (JX.blockO rfl (JX.exit (JX.blockE (JX.code (JC.region ?_))))))
        refine oM ?_
        refine JO.py (Py.add xe ev_const wI) ?_
        refine oA ?_
        refine JO.nil ?_
        refine JX.loop (i + 4, out ++ [D % 256, D / 256 % 256, D / 65536 % 256, x3], (((cur.setIfInBounds (i + 0) (vu8 (D % 256))).setIfInBounds (i + 1) (vu8 (D / 256 % 256))).setIfInBounds (i + 2) (vu8 (D / 65536 % 256)))) ⟨hW2, hR2, by simp only [Array.size_setIfInBounds]; exact hz2⟩ (by dsimp only; omega) xag xpkE
      · skip
        refine sR ?_
        refine oM ?_
        first | refine oD (Py.eql xe ev_const) ?_ | refine oU (Py.eql xe ev_const) ?_ | refine JO.py (Py.eql xe ev_const) ?_
        refine oM ?_
        first | (refine gT ?_; (refine oM ?_)) | refine kF ?_ | refine JO.skipU rfl (Lk.ev (v := undef) xlk rfl) ?_
        first | (refine gT ?_; (refine JO.py (Py.idxS Tryz.underlying22 siz5 xe ev_const (by omega) xidx xmult) ?_)) | refine kF ?_ | refine JO.skipU rfl (Lk.ev (v := undef) xlk rfl) ?_
        first | (refine gT ?_; (refine JO.py (Py.load scal5 xe xpick xrow) ?_)) | refine kF ?_ | refine JO.skipU rfl (Lk.ev (v := undef) xlk rfl) ?_
        first | (refine gT ?_; (first | refine oD (Py.eql xe ev_const) ?_ | refine oU (Py.eql xe ev_const) ?_ | refine JO.py (Py.eql xe ev_const) ?_)) | refine kF ?_ | refine JO.skipU rfl (Lk.ev (v := undef) xlk rfl) ?_
        first | refine JO.py (Py.pickT xe xe) ?_ | refine JO.py (Py.pickF xe ev_const) ?_
        refine oA ?_
        refine nC ?_
        refine cF ?_
        refine sR ?_
        refine oM ?_
        first | refine oD (Py.eql xe ev_const) ?_ | refine oU (Py.eql xe ev_const) ?_ | refine JO.py (Py.eql xe ev_const) ?_
        refine oM ?_
        first | (refine gT ?_; (refine oM ?_)) | refine kF ?_ | refine JO.skipU rfl (Lk.ev (v := undef) xlk rfl) ?_
        first | (refine gT ?_; (refine JO.py (Py.idxS Tryz.underlying22 siz5 xe ev_const (by omega) xidx xmult) ?_)) | refine kF ?_ | refine JO.skipU rfl (Lk.ev (v := undef) xlk rfl) ?_
        first | (refine gT ?_; (refine JO.py (Py.load scal5 xe xpick xrow) ?_)) | refine kF ?_ | refine JO.skipU rfl (Lk.ev (v := undef) xlk rfl) ?_
        first | (refine gT ?_; (first | refine oD (Py.eql xe ev_const) ?_ | refine oU (Py.eql xe ev_const) ?_ | refine JO.py (Py.eql xe ev_const) ?_)) | refine kF ?_ | refine JO.skipU rfl (Lk.ev (v := undef) xlk rfl) ?_
        first | (refine gT ?_; (refine oM ?_)) | refine kF ?_ | refine JO.skipU rfl (Lk.ev (v := undef) xlk rfl) ?_
        first | (refine gT ?_; (refine oM ?_)) | refine kF ?_ | refine JO.skipU rfl (Lk.ev (v := undef) xlk rfl) ?_
        first | (refine gT ?_; (refine JO.py (Py.idxS Tryz.underlying22 siz5 xe ev_const (by omega) xidx xmult) ?_)) | refine kF ?_ | refine JO.skipU rfl (Lk.ev (v := undef) xlk rfl) ?_
        first | (refine gT ?_; (refine JO.py (Py.load scal5 xe xpick xrow) ?_)) | refine kF ?_ | refine JO.skipU rfl (Lk.ev (v := undef) xlk rfl) ?_
        first | (refine gT ?_; (refine JO.py (Py.andN xe ev_const (r_u8 (by omega)) (r_u8 (by omega)) (by decide)) ?_)) | refine kF ?_ | refine JO.skipU rfl (Lk.ev (v := undef) xlk rfl) ?_
        first | (refine gT ?_; (first | refine oD (Py.eql xe ev_const) ?_ | refine oU (Py.eql xe ev_const) ?_ | refine JO.py (Py.eql xe ev_const) ?_)) | refine kF ?_ | refine JO.skipU rfl (Lk.ev (v := undef) xlk rfl) ?_
        first | (refine gT ?_; (first | refine JO.py (Py.pickT xe xe) ?_ | refine JO.py (Py.pickF xe ev_const) ?_)) | refine kF ?_ | refine JO.skipU rfl (Lk.ev (v := undef) xlk rfl) ?_
        first | (refine gT ?_; (refine oM ?_)) | refine kF ?_ | refine JO.skipU rfl (Lk.ev (v := undef) xlk rfl) ?_
        first | (refine gF ?_; (refine oM ?_)) | refine kT ?_ | refine JO.skipU rfl (Lk.ev (v := undef) xlk rfl) ?_
        first | (refine gF ?_; (refine JO.py (Py.idxS Tryz.underlying22 siz5 xe ev_const (by omega) xidx xmult) ?_)) | refine kT ?_ | refine JO.skipU rfl (Lk.ev (v := undef) xlk rfl) ?_
        first | (refine gF ?_; (refine JO.py (Py.load scal5 xe xpick xrow) ?_)) | refine kT ?_ | refine JO.skipU rfl (Lk.ev (v := undef) xlk rfl) ?_
        first | (refine gF ?_; (first | refine oD (Py.eql xe ev_const) ?_ | refine oU (Py.eql xe ev_const) ?_ | refine JO.py (Py.eql xe ev_const) ?_)) | refine kT ?_ | refine JO.skipU rfl (Lk.ev (v := undef) xlk rfl) ?_
        first | (refine gF ?_; (refine oM ?_)) | refine kT ?_ | refine JO.skipU rfl (Lk.ev (v := undef) xlk rfl) ?_
        first | (refine gT ?_; (refine oM ?_)) | refine kF ?_ | refine JO.skipU rfl (Lk.ev (v := undef) xlk rfl) ?_
        first | (refine gT ?_; (refine JO.py (Py.idxS Tryz.underlying22 siz5 xe ev_const (by omega) xidx xmult) ?_)) | refine kF ?_ | refine JO.skipU rfl (Lk.ev (v := undef) xlk rfl) ?_
        first | (refine gT ?_; (refine JO.py (Py.load scal5 xe xpick xrow) ?_)) | refine kF ?_ | refine JO.skipU rfl (Lk.ev (v := undef) xlk rfl) ?_
        first | (refine gT ?_; (refine JO.py (Py.andN xe ev_const (r_u8 (by omega)) (r_u8 (by omega)) (by decide)) ?_)) | refine kF ?_ | refine JO.skipU rfl (Lk.ev (v := undef) xlk rfl) ?_
        first | (refine gT ?_; (first | refine oD (Py.eql xe ev_const) ?_ | refine oU (Py.eql xe ev_const) ?_ | refine JO.py (Py.eql xe ev_const) ?_)) | refine kF ?_ | refine JO.skipU rfl (Lk.ev (v := undef) xlk rfl) ?_
        first | (refine gF ?_; (first | refine JO.py (Py.pickT xe xe) ?_ | refine JO.py (Py.pickF xe ev_const) ?_)) | refine kT ?_ | refine JO.skipU rfl (Lk.ev (v := undef) xlk rfl) ?_
        first | (refine gT ?_; (first | refine JO.py (Py.pickT xe ev_const) ?_ | refine JO.py (Py.pickF xe xe) ?_)) | refine kF ?_ | refine JO.skipU rfl (Lk.ev (v := undef) xlk rfl) ?_
        first | refine JO.py (Py.pickT xe xe) ?_ | refine JO.py (Py.pickF xe ev_const) ?_
        refine oA ?_
        refine nC ?_
        refine cF ?_
        refine JC.exit (JX.blockO rfl (JX.exit (JX.blockE (JX.code (JC.region ?_)))))
        refine oM ?_
        refine JO.py (Py.add xe ev_const wI) ?_
        refine oA ?_
        refine JO.nil ?_
        have hW2 := hW.word (y := (x0, x1, x2, x3)) (by omega) (by rw [Nat.zero_add, show bs.getD i 0 = x0 from e0, e1, e2, e3]; exact Bx.armE_f hq)
        refine JX.loop (i + 4, out ++ [x0, x1, x2, x3], cur) ⟨hW2, by dsimp only; rw [← e0, ← e1, ← e2, ← e3]; show RdOk cur 0 ((out ++ [bs.getD i 0, bs.getD (i + 1) 0, bs.getD (i + 2) 0, bs.getD (i + 3) 0]) ++ bs.drop (i + 4)); rw [Bx.cat_keep (by omega)]; exact hR, hz2⟩ (by dsimp only; omega) xag xpkE
    · skip
      refine JC.seq (sR ?_)
      refine oM ?_
      refine JO.py (Py.add xe ev_const wI) ?_
      refine oM ?_
      refine JO.py (Py.lenS Tryz.underlying22 xe) ?_
      first | refine oD (Py.leq xe xe) ?_ | refine oU (Py.leq xe xe) ?_ | refine JO.py (Py.leq xe xe) ?_
      refine nC ?_
      refine cF ?_
      refine JC.exit (JX.exit (JX.exit (JX.blockE (JX.code (sR ?_)))))
      refine oM ?_
      refine oA ?_
      refine nC (JC.ret ?_)
      have hlast := hW.last (by omega)
      refine JX.torow (b := rb) (e := 5) (m := bl) (cap := rc) (xs := u8s (Bx.wmap Bx.armE 0 bs)) xpick (by rw [← hlast]; exact hR.row hz2 (by rw [Bx.cat_len hlen hle]; omega) hrlt) (by rw [u8s_len, ← hlast, Bx.cat_len hlen hle]; exact hbl) ?_
      refine JX.end1 (Or.inl rfl) (_) Tryz.results13 ((xe).trans (by first | exact xval | (dsimp only; exact xval))) xpkE
set_option maxRecDepth 100000 in
set_option maxHeartbeats 4000000 in
theorem spec3_con (G : Gst) (bb ob bl bc : Nat) (ba : Option Addr) (hba : 0 < bl → ba = some ⟨bb, ob, none⟩ ∧ bl ≤ bc) (cs : Array Value) (Tb : TypeId) (fr : Nat × Nat) (bs : List Nat) (hb : RdOk cs ob bs) (hbl : bs.length = bl) (h3 : bl ≤ 3000) :
    Con Tryz.prog G 13 #[.int .i64 ((3 : Nat) : Int), .slice ba bl bc] [blk bb (.cells cs Tb fr)] (fun x : Value => x) (fun x => [Row 5 x (u8s (encK 3 bs)), blk bb (.cells cs Tb fr)]) := by
  have hby : Bx.Byte bs := hb.lt
  show Con Tryz.prog G 13 #[.int .i64 ((3 : Nat) : Int), .slice ba bl bc] [blk bb (.cells cs Tb fr)] (fun x : Value => x) (fun x => [Row 5 x (u8s (Bx.wmap Bx.spE 0 bs)), blk bb (.cells cs Tb fr)])
  refine Con.intro Tryz.func13 rfl (by kernel_rfl) Tryz.ntmps13 (Nat.le_of_ble_eq_true rfl) ?_
  intro F
  show JC _ _ _ _ _ _ [(0, _), (1, _)] _ [_, _]
  refine sR ?_
  refine oC ?_
  refine nC (JC.seq (sR ?_))
  refine oM ?_
  first | refine oD (Py.eql xe ev_const) ?_ | refine oU (Py.eql xe ev_const) ?_ | refine JO.py (Py.eql xe ev_const) ?_
  refine nC ?_
  refine cF ?_
  refine JC.skip (JX.code (sR ?_))
  refine JO.bslice Tryz.underlying22 elm5 Evs.nil rfl rfl (by first | (simp [Value.oneCell']; done) | (simp only [List.mem_cons, List.not_mem_nil, or_false, forall_eq]; assumption) | fail) (by decide) ?_; intro b16
  refine oM ?_
  refine JO.toRow (b := b16) (e := 5) (cur := #[]) (xs := u8s []) (m := 0) xpick rfl rfl (by decide) ?_
  refine JO.app Tryz.underlying22 elm5 xe xe xpick (Src.text rfl hba xpick hb hbl) (by simp [u8s]; omega) (by decide) ?_
  intro v18 ho18
  rw [show u8s [] ++ u8s bs = u8s bs from rfl]
  refine oA ?_
  refine nC (JC.seq (sR ?_))
  refine oC ?_
  refine nC (JC.block ?_)
  rcases Nat.eq_zero_or_pos bl with hz | hz
  · skip
    subst hz
    obtain rfl : bs = [] := List.eq_nil_of_length_eq_zero hbl
    have he : Bx.wmap Bx.spE 0 [] = [] := rfl
    rw [he]
    refine JC.rowV (e := 5) (v := v18) (xs := u8s []) xpick ?_
    rintro ra rc hv18 -
    rw [show (u8s []).length = 0 from rfl] at hv18
    subst hv18
    refine JC.unroll 0 ?_
    refine JC.seq (sR ?_)
    refine oM ?_
    refine JO.py (Py.add xe ev_const wI) ?_
    refine oM ?_
    refine JO.py (Py.lenS Tryz.underlying22 xe) ?_
    first | refine oD (Py.leq xe xe) ?_ | refine oU (Py.leq xe xe) ?_ | refine JO.py (Py.leq xe xe) ?_
    refine nC ?_
    refine cF ?_
    refine JC.exit (JX.exit (JX.exit (JX.blockE (JX.code (sR ?_)))))
    refine oM ?_
    refine oA ?_
    refine nC (JC.ret ?_)
    refine JX.end1 (Or.inl rfl) (_) Tryz.results13 ((xe).trans (by first | exact xval | (dsimp only; exact xval))) xpkE
  · skip
    refine JC.unrow (e := 5) (v := v18) (xs := u8s bs) xpick (by intro h; have := congrArg List.length h; rw [u8s_len, hbl] at this; exact absurd this (by show ¬ bl = 0; omega)) ?_
    rintro rb rc rcur rfl hrr
    rw [u8s_len, hbl]
    have hr0 := hrr.rd hby
    have hrs := hrr.size
    have hrle := hrr.le
    have hrlt := hrr.lt
    rw [u8s_len, hbl] at hrle
    refine JC.loop (ι := Nat × List Nat × Array Value) (fun x => Bx.WmP Bx.spE 0 bs x.1 x.2.1 ∧ RdOk x.2.2 0 (x.2.1 ++ bs.drop x.1) ∧ x.2.2.size = rc) (fun x => [(0, .int .i64 ((3 : Nat) : Int)), (5, .slice (some ⟨rb, 0, none⟩) bl rc), (6, .int .i64 (x.1 : Nat))]) (fun x => [cel rb 5 x.2.2, blk bb (.cells cs Tb fr), F]) (fun x => bl - x.1) (0, [], rcur) ⟨Bx.WmP.zero, by simpa using hr0, hrs⟩ xag xpkE ?_
    rintro ⟨i, out, cur⟩ base' ⟨hW, hR, hz2⟩
    dsimp only at hW hR hz2 ⊢
    have hle := hW.le
    have hlen := hW.len
    have hmod := hW.mod
    by_cases hp : i + 4 ≤ bl
    · skip
      obtain ⟨x0, e0⟩ : ∃ x, bs.getD (i + 0) 0 = x := ⟨_, rfl⟩
      obtain ⟨x1, e1⟩ : ∃ x, bs.getD (i + 1) 0 = x := ⟨_, rfl⟩
      obtain ⟨x2, e2⟩ : ∃ x, bs.getD (i + 2) 0 = x := ⟨_, rfl⟩
      obtain ⟨x3, e3⟩ : ∃ x, bs.getD (i + 3) 0 = x := ⟨_, rfl⟩
      obtain ⟨c0, l0⟩ := win0 (p := i + 0) hR hlen (by omega) rfl e0
      obtain ⟨c1, l1⟩ := win0 (p := i + 1) hR hlen (by omega) rfl e1
      obtain ⟨c2, l2⟩ := win0 (p := i + 2) hR hlen (by omega) rfl e2
      obtain ⟨c3, l3⟩ := win0 (p := i + 3) hR hlen (by omega) rfl e3
      have hwl := Bx.be_lt5 l0 l1 l2 l3
      obtain ⟨w, hw⟩ : ∃ w, Bx.be (x0, x1, x2, x3) = w := ⟨_, rfl⟩
      rw [hw] at hwl
      have hws : 16777216 * x0 + 65536 * x1 + 256 * x2 + x3 = w := hw
      refine JC.seq (sR ?_)
      refine oM ?_
      refine JO.py (Py.add xe ev_const wI) ?_
      refine oM ?_
      refine JO.py (Py.lenS Tryz.underlying22 xe) ?_
      first | refine oD (Py.leq xe xe) ?_ | refine oU (Py.leq xe xe) ?_ | refine JO.py (Py.leq xe xe) ?_
      refine nC ?_
      refine cT ?_
      refine JC.skip (JX.code (JC.seq (JC.block (sR ?_))))
      refine oM ?_
      refine oM ?_
      refine oM ?_
      refine JO.py (Py.add xe ev_const wI) ?_
      refine JO.py (Py.slc (l := i) (h := i + 4) (p := i) (q := 4) (c := rc - i) Tryz.underlying22 siz5 xe (Bd.some xe (by omega)) (Bd.some xe (by omega)) (by omega) (by omega) (by omega) (by omega) (by omega) (by omega)) ?_
      refine oA ?_
      refine nC (JC.seq ?_)
      refine JC.regionD mixed (by kernel_rfl) ?_
      refine JD.py (Py.move xe) ?_
      refine JD.py (Py.idxS Tryz.underlying22 siz5 xe ev_const (by omega) xidx xmult) ?_
      refine JD.py (Py.load scal5 xe xpick xrow) ?_
      first | refine JD.py (Py.conv cnv5_45 xe (w_u32 (by omega))) ?_ | refine JD.py (Py.conv cnv5_45 xe (m_u32 _)) ?_
      first | refine JD.py (Py.shl 24 16777216 xe ev_const rfl (by decide) (by decide) (w_u32 (by omega))) ?_ | refine JD.py (Py.shl 24 16777216 xe ev_const rfl (by decide) (by decide) (m_u32 _)) ?_
      refine JD.py (Py.move xe) ?_
      refine JD.py (Py.idxS Tryz.underlying22 siz5 xe ev_const (by omega) xidx xmult) ?_
      refine JD.py (Py.load scal5 xe xpick xrow) ?_
      first | refine JD.py (Py.conv cnv5_45 xe (w_u32 (by omega))) ?_ | refine JD.py (Py.conv cnv5_45 xe (m_u32 _)) ?_
      first | refine JD.py (Py.shl 16 65536 xe ev_const rfl (by decide) (by decide) (w_u32 (by omega))) ?_ | refine JD.py (Py.shl 16 65536 xe ev_const rfl (by decide) (by decide) (m_u32 _)) ?_
      refine JD.py (Py.to (Py.orN xe xe (r_u32 (by omega)) (r_u32 (by omega)) (by decide)) (v' := .int .u32 (16777216 * x0 + 65536 * x1 : Nat)) (vint (or_int (x := 16777216 * x0) (y := 65536 * x1) (by omega) (by omega) ((or_at (k := 24) (a := x0) (b := 0) (by omega) (by omega)).trans (rfl))))) ?_
      refine JD.py (Py.move xe) ?_
      refine JD.py (Py.idxS Tryz.underlying22 siz5 xe ev_const (by omega) xidx xmult) ?_
      refine JD.py (Py.load scal5 xe xpick xrow) ?_
      first | refine JD.py (Py.conv cnv5_45 xe (w_u32 (by omega))) ?_ | refine JD.py (Py.conv cnv5_45 xe (m_u32 _)) ?_
      first | refine JD.py (Py.shl 8 256 xe ev_const rfl (by decide) (by decide) (w_u32 (by omega))) ?_ | refine JD.py (Py.shl 8 256 xe ev_const rfl (by decide) (by decide) (m_u32 _)) ?_
      refine JD.py (Py.to (Py.orN xe xe (r_u32 (by omega)) (r_u32 (by omega)) (by decide)) (v' := .int .u32 (16777216 * x0 + 65536 * x1 + 256 * x2 : Nat)) (vint (or_int (x := 16777216 * x0 + 65536 * x1) (y := 256 * x2) (by omega) (by omega) ((or_at (k := 16) (a := 256 * x0 + x1) (b := 0) (by omega) (by omega)).trans (rfl))))) ?_
      refine JD.py (Py.move xe) ?_
      refine JD.py (Py.idxS Tryz.underlying22 siz5 xe ev_const (by omega) xidx xmult) ?_
      refine JD.py (Py.load scal5 xe xpick xrow) ?_
      first | refine JD.py (Py.conv cnv5_45 xe (w_u32 (by omega))) ?_ | refine JD.py (Py.conv cnv5_45 xe (m_u32 _)) ?_
      refine JD.py (Py.to (Py.orN xe xe (r_u32 (by omega)) (r_u32 (by omega)) (by decide)) (v' := .int .u32 (w : Nat)) (vint (or_int (x := 16777216 * x0 + 65536 * x1 + 256 * x2) (y := x3) (by omega) (by omega) ((or_at (k := 8) (a := 65536 * x0 + 256 * x1 + x2) (b := 0) (by omega) (by omega)).trans (hws))))) ?_
      have hz0 := gand_192 x1 l1
      obtain ⟨z0, ez0⟩ : ∃ z, x1 &&& 192 = z := ⟨_, rfl⟩
      rw [ez0] at hz0
      refine JD.py (Py.assign xe) ?_
      refine JD.nilN (JX.code (JC.seq (JC.block (sR ?_))))
      refine oM ?_
      first | refine oD (Py.eql xe ev_const) ?_ | refine oU (Py.eql xe ev_const) ?_ | refine JO.py (Py.eql xe ev_const) ?_
      refine oM ?_
      first | (refine gT ?_; (refine oM ?_)) | refine kF ?_ | refine JO.skipU rfl (Lk.ev (v := undef) xlk rfl) ?_
      first | (refine gT ?_; (refine JO.py (Py.idxS Tryz.underlying22 siz5 xe ev_const (by omega) xidx xmult) ?_)) | refine kF ?_ | refine JO.skipU rfl (Lk.ev (v := undef) xlk rfl) ?_
      first | (refine gT ?_; (refine JO.py (Py.load scal5 xe xpick xrow) ?_)) | refine kF ?_ | refine JO.skipU rfl (Lk.ev (v := undef) xlk rfl) ?_
      first | (refine gT ?_; (refine JO.py (Py.shr 2 4 xe ev_const rfl (by decide) (by decide) (by decide)) ?_)) | refine kF ?_ | refine JO.skipU rfl (Lk.ev (v := undef) xlk rfl) ?_
      first | (refine gT ?_; (first | refine oD (Py.eql xe ev_const) ?_ | refine oU (Py.eql xe ev_const) ?_ | refine JO.py (Py.eql xe ev_const) ?_)) | refine kF ?_ | refine JO.skipU rfl (Lk.ev (v := undef) xlk rfl) ?_
      first | refine JO.py (Py.pickT xe xe) ?_ | refine JO.py (Py.pickF xe ev_const) ?_
      refine oM ?_
      first | (refine gT ?_; (refine oM ?_)) | refine kF ?_ | refine JO.skipU rfl (Lk.ev (v := undef) xlk rfl) ?_
      first | (refine gT ?_; (refine JO.py (Py.idxS Tryz.underlying22 siz5 xe ev_const (by omega) xidx xmult) ?_)) | refine kF ?_ | refine JO.skipU rfl (Lk.ev (v := undef) xlk rfl) ?_
      first | (refine gT ?_; (refine JO.py (Py.load scal5 xe xpick xrow) ?_)) | refine kF ?_ | refine JO.skipU rfl (Lk.ev (v := undef) xlk rfl) ?_
      first | (refine gT ?_; (refine JO.py (Py.mask 2 4 xe ev_const (by decide) (by decide) (by decide) (r_u8 (by omega)) (w_u8 (by omega))) ?_)) | refine kF ?_ | refine JO.skipU rfl (Lk.ev (v := undef) xlk rfl) ?_
      first | (refine gT ?_; (first | refine oD (Py.eql xe ev_const) ?_ | refine oU (Py.eql xe ev_const) ?_ | refine JO.py (Py.eql xe ev_const) ?_)) | refine kF ?_ | refine JO.skipU rfl (Lk.ev (v := undef) xlk rfl) ?_
      first | refine JO.py (Py.pickT xe xe) ?_ | refine JO.py (Py.pickF xe ev_const) ?_
      refine oA ?_
      refine nC ?_
      refine cF ?_
      refine sR ?_
      refine oM ?_
      first | refine oD (Py.eql xe ev_const) ?_ | refine oU (Py.eql xe ev_const) ?_ | refine JO.py (Py.eql xe ev_const) ?_
      refine oM ?_
      first | (refine gT ?_; (refine oM ?_)) | refine kF ?_ | refine JO.skipU rfl (Lk.ev (v := undef) xlk rfl) ?_
      first | (refine gT ?_; (refine JO.py (Py.idxS Tryz.underlying22 siz5 xe ev_const (by omega) xidx xmult) ?_)) | refine kF ?_ | refine JO.skipU rfl (Lk.ev (v := undef) xlk rfl) ?_
      first | (refine gT ?_; (refine JO.py (Py.load scal5 xe xpick xrow) ?_)) | refine kF ?_ | refine JO.skipU rfl (Lk.ev (v := undef) xlk rfl) ?_
      first | (refine gT ?_; (first | refine oD (Py.eql xe ev_const) ?_ | refine oU (Py.eql xe ev_const) ?_ | refine JO.py (Py.eql xe ev_const) ?_)) | refine kF ?_ | refine JO.skipU rfl (Lk.ev (v := undef) xlk rfl) ?_
      first | refine JO.py (Py.pickT xe xe) ?_ | refine JO.py (Py.pickF xe ev_const) ?_
      refine oA ?_
      refine nC ?_
      refine cF ?_
      refine sR ?_
      refine oM ?_
      first | refine oD (Py.eql xe ev_const) ?_ | refine oU (Py.eql xe ev_const) ?_ | refine JO.py (Py.eql xe ev_const) ?_
      refine oM ?_
      first | (refine gT ?_; (refine oM ?_)) | refine kF ?_ | refine JO.skipU rfl (Lk.ev (v := undef) xlk rfl) ?_
      first | (refine gT ?_; (refine JO.py (Py.idxS Tryz.underlying22 siz5 xe ev_const (by omega) xidx xmult) ?_)) | refine kF ?_ | refine JO.skipU rfl (Lk.ev (v := undef) xlk rfl) ?_
      first | (refine gT ?_; (refine JO.py (Py.load scal5 xe xpick xrow) ?_)) | refine kF ?_ | refine JO.skipU rfl (Lk.ev (v := undef) xlk rfl) ?_
      refine gT ?_
      refine JO.py (Py.eql xe ev_const) ?_
      by_cases q0 : x0 = 64
      · skip
        rw [show decide (((x0 : Nat) : Int) = 64) = true from decide_eq_true (by omega)]
        first | (refine gT ?_; (refine oM ?_)) | refine kF ?_ | refine JO.skipU rfl (Lk.ev (v := undef) xlk rfl) ?_
        first | (refine gT ?_; (refine oM ?_)) | refine kF ?_ | refine JO.skipU rfl (Lk.ev (v := undef) xlk rfl) ?_
        first | (refine gT ?_; (refine JO.py (Py.idxS Tryz.underlying22 siz5 xe ev_const (by omega) xidx xmult) ?_)) | refine kF ?_ | refine JO.skipU rfl (Lk.ev (v := undef) xlk rfl) ?_
        first | (refine gT ?_; (refine JO.py (Py.load scal5 xe xpick xrow) ?_)) | refine kF ?_ | refine JO.skipU rfl (Lk.ev (v := undef) xlk rfl) ?_
        refine gT ?_
        refine JO.py (Py.to (Py.andN xe ev_const (r_u8 (by omega)) (r_u8 (by omega)) (by decide)) (v' := .int .u8 (z0 : Nat)) (vint (by rw [← ez0]; rfl))) ?_
        by_cases q1 : x1 < 64
        · skip
          have q2 := hz0.1.2 q1
          have hq : (x0 = 64 ∧ x1 < 64) ∨ (x0 = 127 ∧ 192 ≤ x1) := .inl ⟨q0, q1⟩
          first | (refine gT ?_; (first | refine oD (Py.eql xe ev_const) ?_ | refine oU (Py.eql xe ev_const) ?_ | refine JO.py (Py.eql xe ev_const) ?_)) | refine kF ?_ | refine JO.skipU rfl (Lk.ev (v := undef) xlk rfl) ?_
          first | (refine gT ?_; (first | refine JO.py (Py.pickT xe xe) ?_ | refine JO.py (Py.pickF xe ev_const) ?_)) | refine kF ?_ | refine JO.skipU rfl (Lk.ev (v := undef) xlk rfl) ?_
          first | (refine gT ?_; (refine oM ?_)) | refine kF ?_ | refine JO.skipU rfl (Lk.ev (v := undef) xlk rfl) ?_
          first | (refine gF ?_; (refine oM ?_)) | refine kT ?_ | refine JO.skipU rfl (Lk.ev (v := undef) xlk rfl) ?_
          first | (refine gF ?_; (refine JO.py (Py.idxS Tryz.underlying22 siz5 xe ev_const (by omega) xidx xmult) ?_)) | refine kT ?_ | refine JO.skipU rfl (Lk.ev (v := undef) xlk rfl) ?_
          first | (refine gF ?_; (refine JO.py (Py.load scal5 xe xpick xrow) ?_)) | refine kT ?_ | refine JO.skipU rfl (Lk.ev (v := undef) xlk rfl) ?_
          first | (refine gF ?_; (first | refine oD (Py.eql xe ev_const) ?_ | refine oU (Py.eql xe ev_const) ?_ | refine JO.py (Py.eql xe ev_const) ?_)) | refine kT ?_ | refine JO.skipU rfl (Lk.ev (v := undef) xlk rfl) ?_
          first | (refine gF ?_; (refine oM ?_)) | refine kT ?_ | refine JO.skipU rfl (Lk.ev (v := undef) xlk rfl) ?_
          first | (refine gT ?_; (refine oM ?_)) | refine kF ?_ | refine JO.skipU rfl (Lk.ev (v := undef) xlk rfl) ?_
          first | (refine gT ?_; (refine JO.py (Py.idxS Tryz.underlying22 siz5 xe ev_const (by omega) xidx xmult) ?_)) | refine kF ?_ | refine JO.skipU rfl (Lk.ev (v := undef) xlk rfl) ?_
          first | (refine gT ?_; (refine JO.py (Py.load scal5 xe xpick xrow) ?_)) | refine kF ?_ | refine JO.skipU rfl (Lk.ev (v := undef) xlk rfl) ?_
          first | (refine gT ?_; (refine JO.py (Py.andN xe ev_const (r_u8 (by omega)) (r_u8 (by omega)) (by decide)) ?_)) | refine kF ?_ | refine JO.skipU rfl (Lk.ev (v := undef) xlk rfl) ?_
          first | (refine gT ?_; (first | refine oD (Py.eql xe ev_const) ?_ | refine oU (Py.eql xe ev_const) ?_ | refine JO.py (Py.eql xe ev_const) ?_)) | refine kF ?_ | refine JO.skipU rfl (Lk.ev (v := undef) xlk rfl) ?_
          first | (refine gF ?_; (first | refine JO.py (Py.pickT xe xe) ?_ | refine JO.py (Py.pickF xe ev_const) ?_)) | refine kT ?_ | refine JO.skipU rfl (Lk.ev (v := undef) xlk rfl) ?_
          first | (refine gT ?_; (first | refine JO.py (Py.pickT xe ev_const) ?_ | refine JO.py (Py.pickF xe xe) ?_)) | refine kF ?_ | refine JO.skipU rfl (Lk.ev (v := undef) xlk rfl) ?_
          first | refine JO.py (Py.pickT xe xe) ?_ | refine JO.py (Py.pickF xe ev_const) ?_
          refine oA ?_
          refine nC ?_
          refine cT ?_
          obtain ⟨d, hd⟩ : ∃ d, (w * 4 % 4294967296 + i) % 4294967296 / 4 = d := ⟨_, rfl⟩
          refine sR ?_
          refine oM ?_
          refine JO.py (Py.shl 2 4 xe ev_const rfl (by decide) (by decide) (m_u32 _)) ?_
          refine oM ?_
          first | refine JO.py (Py.conv cnv3_45 xe (w_u32 (by omega))) ?_ | refine JO.py (Py.conv cnv3_45 xe (m_u32 _)) ?_
          refine JO.py (Py.add xe xe (m_u32 _)) ?_
          refine JO.py (Py.to (Py.shr 2 4 xe ev_const rfl (by decide) (by decide) (by decide)) (v' := .int .u32 (d : Nat)) (vint (by omega))) ?_
          by_cases hbit : d / 4194304 % 2 = 1
          · skip
            have ht : 1069547520 + d % 4194304 + 1073741824 = (if d / 4194304 % 2 = 1 then 2143289344 else 1073741824) + d % 4194304 := by rw [if_pos hbit]; omega
            obtain ⟨z, hzz⟩ : ∃ z, 1069547520 + d % 4194304 + 1073741824 = z := ⟨_, rfl⟩
            refine oA ?_
            refine nC (JC.region ?_)
            refine oM ?_
            refine JO.py (Py.shr 22 4194304 xe ev_const rfl (by decide) (by decide) (by decide)) ?_
            refine JO.py (Py.mask 1 2 xe ev_const (by decide) (by decide) (by decide) (r_u32 (by omega)) (w_u32 (by omega))) ?_
            refine JO.py (Py.to (Py.neg xe (m_u32 _)) (v' := .int .u32 4294967295) (vint (by omega))) ?_
            refine JO.py (Py.to (Py.shl 22 4194304 xe ev_const rfl (by decide) (by decide) (m_u32 _)) (v' := .int .u32 4290772992) (vint (by decide))) ?_
            refine JO.py (Py.to (Py.andN xe ev_const (r_u32 (by omega)) (r_u32 (by omega)) (by decide)) (v' := .int .u32 1069547520) (vint (by rfl))) ?_
            refine oM ?_
            refine JO.py (Py.mask 22 4194304 xe ev_const (by decide) (by decide) (by decide) (r_u32 (by omega)) (w_u32 (by omega))) ?_
            refine JO.py (Py.to (Py.orN xe xe (r_u32 (by omega)) (r_u32 (by omega)) (by decide)) (v' := .int .u32 (1069547520 + d % 4194304 : Nat)) (vint (or_int (x := 1069547520) (y := d % 4194304) (by omega) (by omega) (or_at (k := 22) (a := 255) (b := 0) (by omega) (by omega))))) ?_
            refine JO.py (Py.to (Py.orN xe ev_const (r_u32 (by omega)) (r_u32 (by omega)) (by decide)) (v' := .int .u32 (z : Nat)) (vint (or_int (x := 1069547520 + d % 4194304) (y := 1073741824) (by omega) (by omega) ((or_lo (k := 30) (a := 1) (by omega) (by omega)).trans hzz)))) ?_
            have hW2 := hW.word (y := Bx.un z) (by omega) (by rw [Nat.zero_add, show bs.getD i 0 = x0 from e0, e1, e2, e3]; exact Bx.spE_t hq (by omega) (by rw [hw]; exact hd) (ht.symm.trans hzz))
            have hR2 := put4_ok (y0 := z / 16777216 % 256) (y1 := z / 65536 % 256) (y2 := z / 256 % 256) (y3 := z % 256) hR hW.len (by omega) (by omega) (by omega) (by omega) (by omega) (by omega)
            refine oA ?_
            refine JO.nil (JX.blockN (JX.code (JC.region ?_)))
            refine oM ?_
            refine oM ?_
            refine oM ?_
            refine oM ?_
            refine oM ?_
            refine JO.py (Py.shr 24 16777216 xe ev_const rfl (by decide) (by decide) (by decide)) ?_
            refine JO.py (Py.to (Py.conv cnv45_5 xe (m_u8 _)) (v' := vu8 (z / 16777216 % 256)) (vint (by omega))) ?_
            refine oM ?_
            refine JO.py (Py.shr 16 65536 xe ev_const rfl (by decide) (by decide) (by decide)) ?_
            refine JO.py (Py.to (Py.conv cnv45_5 xe (m_u8 _)) (v' := vu8 (z / 65536 % 256)) (vint (by omega))) ?_
            refine oM ?_
            refine JO.py (Py.shr 8 256 xe ev_const rfl (by decide) (by decide) (by decide)) ?_
            refine JO.py (Py.to (Py.conv cnv45_5 xe (m_u8 _)) (v' := vu8 (z / 256 % 256)) (vint (by omega))) ?_
            refine oM ?_
            refine JO.py (Py.to (Py.conv cnv45_5 xe (m_u8 _)) (v' := vu8 (z % 256)) (vint (by omega))) ?_
            refine JO.py (Py.idxS Tryz.underlying22 siz5 xe ev_const (by omega) xidx xmult) ?_
            refine JO.store siz5 xe xe (by first | rfl | assumption) xpick xsize xnorm ?_
            refine JO.py (Py.idxS Tryz.underlying22 siz5 xe ev_const (by omega) xidx xmult) ?_
            refine JO.store siz5 xe xe (by first | rfl | assumption) xpick xsize xnorm ?_
            refine JO.py (Py.idxS Tryz.underlying22 siz5 xe ev_const (by omega) xidx xmult) ?_
            refine JO.store siz5 xe xe (by first | rfl | assumption) xpick xsize xnorm ?_
            refine JO.py (Py.idxS Tryz.underlying22 siz5 xe ev_const (by omega) xidx xmult) ?_
            refine JO.store siz5 xe xe (by first | rfl | assumption) xpick xsize xnorm ?_
            refine JO.nil (JX.blockN (JX.code (JC.region ?_)))
            refine oM ?_
            refine JO.py (Py.add xe ev_const wI) ?_
            refine oA ?_
            refine JO.nil ?_
            refine JX.loop (i + 4, out ++ [z / 16777216 % 256, z / 65536 % 256, z / 256 % 256, z % 256], ((((cur.setIfInBounds (i + 0) (vu8 (z / 16777216 % 256))).setIfInBounds (i + 1) (vu8 (z / 65536 % 256))).setIfInBounds (i + 2) (vu8 (z / 256 % 256))).setIfInBounds (i + 3) (vu8 (z % 256)))) ⟨hW2, hR2, by simp only [Array.size_setIfInBounds]; exact hz2⟩ (by dsimp only; omega) xag xpkE
          · skip
            have ht : 0 + d % 4194304 + 1073741824 = (if d / 4194304 % 2 = 1 then 2143289344 else 1073741824) + d % 4194304 := by rw [if_neg hbit]; omega
            obtain ⟨z, hzz⟩ : ∃ z, 0 + d % 4194304 + 1073741824 = z := ⟨_, rfl⟩
            refine oA ?_
            refine nC (JC.region ?_)
            refine oM ?_
            refine JO.py (Py.shr 22 4194304 xe ev_const rfl (by decide) (by decide) (by decide)) ?_
            refine JO.py (Py.mask 1 2 xe ev_const (by decide) (by decide) (by decide) (r_u32 (by omega)) (w_u32 (by omega))) ?_
            refine JO.py (Py.to (Py.neg xe (m_u32 _)) (v' := .int .u32 0) (vint (by omega))) ?_
            refine JO.py (Py.to (Py.shl 22 4194304 xe ev_const rfl (by decide) (by decide) (m_u32 _)) (v' := .int .u32 0) (vint (by decide))) ?_
            refine JO.py (Py.to (Py.andN xe ev_const (r_u32 (by omega)) (r_u32 (by omega)) (by decide)) (v' := .int .u32 0) (vint (by rfl))) ?_
            refine oM ?_
            refine JO.py (Py.mask 22 4194304 xe ev_const (by decide) (by decide) (by decide) (r_u32 (by omega)) (w_u32 (by omega))) ?_
            refine JO.py (Py.to (Py.orN xe xe (r_u32 (by omega)) (r_u32 (by omega)) (by decide)) (v' := .int .u32 (0 + d % 4194304 : Nat)) (vint (or_int (x := 0) (y := d % 4194304) (by omega) (by omega) (or_at (k := 22) (a := 0) (b := 0) (by omega) (by omega))))) ?_
            refine JO.py (Py.to (Py.orN xe ev_const (r_u32 (by omega)) (r_u32 (by omega)) (by decide)) (v' := .int .u32 (z : Nat)) (vint (or_int (x := 0 + d % 4194304) (y := 1073741824) (by omega) (by omega) ((or_lo (k := 30) (a := 1) (by omega) (by omega)).trans hzz)))) ?_
            have hW2 := hW.word (y := Bx.un z) (by omega) (by rw [Nat.zero_add, show bs.getD i 0 = x0 from e0, e1, e2, e3]; exact Bx.spE_t hq (by omega) (by rw [hw]; exact hd) (ht.symm.trans hzz))
            have hR2 := put4_ok (y0 := z / 16777216 % 256) (y1 := z / 65536 % 256) (y2 := z / 256 % 256) (y3 := z % 256) hR hW.len (by omega) (by omega) (by omega) (by omega) (by omega) (by omega)
            refine oA ?_
            refine JO.nil (JX.blockN (JX.code (JC.region ?_)))
            refine oM ?_
            refine oM ?_
            refine oM ?_
            refine oM ?_
            refine oM ?_
            refine JO.py (Py.shr 24 16777216 xe ev_const rfl (by decide) (by decide) (by decide)) ?_
            refine JO.py (Py.to (Py.conv cnv45_5 xe (m_u8 _)) (v' := vu8 (z / 16777216 % 256)) (vint (by omega))) ?_
            refine oM ?_
            refine JO.py (Py.shr 16 65536 xe ev_const rfl (by decide) (by decide) (by decide)) ?_
            refine JO.py (Py.to (Py.conv cnv45_5 xe (m_u8 _)) (v' := vu8 (z / 65536 % 256)) (vint (by omega))) ?_
            refine oM ?_
            refine JO.py (Py.shr 8 256 xe ev_const rfl (by decide) (by decide) (by decide)) ?_
            refine JO.py (Py.to (Py.conv cnv45_5 xe (m_u8 _)) (v' := vu8 (z / 256 % 256)) (vint (by omega))) ?_
            refine oM ?_
            refine JO.py (Py.to (Py.conv cnv45_5 xe (m_u8 _)) (v' := vu8 (z % 256)) (vint (by omega))) ?_
            refine JO.py (Py.idxS Tryz.underlying22 siz5 xe ev_const (by omega) xidx xmult) ?_
            refine JO.store siz5 xe xe (by first | rfl | assumption) xpick xsize xnorm ?_
            refine JO.py (Py.idxS Tryz.underlying22 siz5 xe ev_const (by omega) xidx xmult) ?_
            refine JO.store siz5 xe xe (by first | rfl | assumption) xpick xsize xnorm ?_
            refine JO.py (Py.idxS Tryz.underlying22 siz5 xe ev_const (by omega) xidx xmult) ?_
            refine JO.store siz5 xe xe (by first | rfl | assumption) xpick xsize xnorm ?_
            refine JO.py (Py.idxS Tryz.underlying22 siz5 xe ev_const (by omega) xidx xmult) ?_
            refine JO.store siz5 xe xe (by first | rfl | assumption) xpick xsize xnorm ?_
            refine JO.nil (JX.blockN (JX.code (JC.region ?_)))
            refine oM ?_
            refine JO.py (Py.add xe ev_const wI) ?_
            refine oA ?_
            refine JO.nil ?_
            refine JX.loop (i + 4, out ++ [z / 16777216 % 256, z / 65536 % 256, z / 256 % 256, z % 256], ((((cur.setIfInBounds (i + 0) (vu8 (z / 16777216 % 256))).setIfInBounds (i + 1) (vu8 (z / 65536 % 256))).setIfInBounds (i + 2) (vu8 (z / 256 % 256))).setIfInBounds (i + 3) (vu8 (z % 256)))) ⟨hW2, hR2, by simp only [Array.size_setIfInBounds]; exact hz2⟩ (by dsimp only; omega) xag xpkE
        · skip
          have q2 : ¬ z0 = 0 := fun q => q1 (hz0.1.1 q)
          have hq : ¬ ((x0 = 64 ∧ x1 < 64) ∨ (x0 = 127 ∧ 192 ≤ x1)) := by omega
          first | (refine gT ?_; (first | refine oD (Py.eql xe ev_const) ?_ | refine oU (Py.eql xe ev_const) ?_ | refine JO.py (Py.eql xe ev_const) ?_)) | refine kF ?_ | refine JO.skipU rfl (Lk.ev (v := undef) xlk rfl) ?_
          first | (refine gT ?_; (first | refine JO.py (Py.pickT xe xe) ?_ | refine JO.py (Py.pickF xe ev_const) ?_)) | refine kF ?_ | refine JO.skipU rfl (Lk.ev (v := undef) xlk rfl) ?_
          first | (refine gT ?_; (refine oM ?_)) | refine kF ?_ | refine JO.skipU rfl (Lk.ev (v := undef) xlk rfl) ?_
          first | (refine gF ?_; (refine oM ?_)) | refine kT ?_ | refine JO.skipU rfl (Lk.ev (v := undef) xlk rfl) ?_
          first | (refine gF ?_; (refine JO.py (Py.idxS Tryz.underlying22 siz5 xe ev_const (by omega) xidx xmult) ?_)) | refine kT ?_ | refine JO.skipU rfl (Lk.ev (v := undef) xlk rfl) ?_
          first | (refine gF ?_; (refine JO.py (Py.load scal5 xe xpick xrow) ?_)) | refine kT ?_ | refine JO.skipU rfl (Lk.ev (v := undef) xlk rfl) ?_
          first | (refine gF ?_; (first | refine oD (Py.eql xe ev_const) ?_ | refine oU (Py.eql xe ev_const) ?_ | refine JO.py (Py.eql xe ev_const) ?_)) | refine kT ?_ | refine JO.skipU rfl (Lk.ev (v := undef) xlk rfl) ?_
          first | (refine gF ?_; (refine oM ?_)) | refine kT ?_ | refine JO.skipU rfl (Lk.ev (v := undef) xlk rfl) ?_
          first | (refine gT ?_; (refine oM ?_)) | refine kF ?_ | refine JO.skipU rfl (Lk.ev (v := undef) xlk rfl) ?_
          first | (refine gT ?_; (refine JO.py (Py.idxS Tryz.underlying22 siz5 xe ev_const (by omega) xidx xmult) ?_)) | refine kF ?_ | refine JO.skipU rfl (Lk.ev (v := undef) xlk rfl) ?_
          first | (refine gT ?_; (refine JO.py (Py.load scal5 xe xpick xrow) ?_)) | refine kF ?_ | refine JO.skipU rfl (Lk.ev (v := undef) xlk rfl) ?_
          first | (refine gT ?_; (refine JO.py (Py.andN xe ev_const (r_u8 (by omega)) (r_u8 (by omega)) (by decide)) ?_)) | refine kF ?_ | refine JO.skipU rfl (Lk.ev (v := undef) xlk rfl) ?_
          first | (refine gT ?_; (first | refine oD (Py.eql xe ev_const) ?_ | refine oU (Py.eql xe ev_const) ?_ | refine JO.py (Py.eql xe ev_const) ?_)) | refine kF ?_ | refine JO.skipU rfl (Lk.ev (v := undef) xlk rfl) ?_
          first | (refine gF ?_; (first | refine JO.py (Py.pickT xe xe) ?_ | refine JO.py (Py.pickF xe ev_const) ?_)) | refine kT ?_ | refine JO.skipU rfl (Lk.ev (v := undef) xlk rfl) ?_
          first | (refine gT ?_; (first | refine JO.py (Py.pickT xe ev_const) ?_ | refine JO.py (Py.pickF xe xe) ?_)) | refine kF ?_ | refine JO.skipU rfl (Lk.ev (v := undef) xlk rfl) ?_
          first | refine JO.py (Py.pickT xe xe) ?_ | refine JO.py (Py.pickF xe ev_const) ?_
          refine oA ?_
          refine nC ?_
          refine cF ?_
          refine JC.exit (JX.blockO rfl (JX.exit (JX.blockE (JX.code (JC.region ?_)))))
          refine oM ?_
          refine JO.py (Py.add xe ev_const wI) ?_
          refine oA ?_
          refine JO.nil ?_
          have hW2 := hW.word (y := (x0, x1, x2, x3)) (by omega) (by rw [Nat.zero_add, show bs.getD i 0 = x0 from e0, e1, e2, e3]; exact Bx.spE_f hq)
          refine JX.loop (i + 4, out ++ [x0, x1, x2, x3], cur) ⟨hW2, by dsimp only; rw [← e0, ← e1, ← e2, ← e3]; show RdOk cur 0 ((out ++ [bs.getD i 0, bs.getD (i + 1) 0, bs.getD (i + 2) 0, bs.getD (i + 3) 0]) ++ bs.drop (i + 4)); rw [Bx.cat_keep (by omega)]; exact hR, hz2⟩ (by dsimp only; omega) xag xpkE
      · skip
        rw [show decide (((x0 : Nat) : Int) = 64) = false from decide_eq_false (by omega)]
        by_cases q2 : x0 = 127
        · skip
          first | (refine gT ?_; (refine oM ?_)) | refine kF ?_ | refine JO.skipU rfl (Lk.ev (v := undef) xlk rfl) ?_
          first | (refine gT ?_; (refine oM ?_)) | refine kF ?_ | refine JO.skipU rfl (Lk.ev (v := undef) xlk rfl) ?_
          first | (refine gT ?_; (refine JO.py (Py.idxS Tryz.underlying22 siz5 xe ev_const (by omega) xidx xmult) ?_)) | refine kF ?_ | refine JO.skipU rfl (Lk.ev (v := undef) xlk rfl) ?_
          first | (refine gT ?_; (refine JO.py (Py.load scal5 xe xpick xrow) ?_)) | refine kF ?_ | refine JO.skipU rfl (Lk.ev (v := undef) xlk rfl) ?_
          first | (refine gT ?_; (refine JO.py (Py.andN xe ev_const (r_u8 (by omega)) (r_u8 (by omega)) (by decide)) ?_)) | refine kF ?_ | refine JO.skipU rfl (Lk.ev (v := undef) xlk rfl) ?_
          first | (refine gT ?_; (first | refine oD (Py.eql xe ev_const) ?_ | refine oU (Py.eql xe ev_const) ?_ | refine JO.py (Py.eql xe ev_const) ?_)) | refine kF ?_ | refine JO.skipU rfl (Lk.ev (v := undef) xlk rfl) ?_
          first | (refine gT ?_; (first | refine JO.py (Py.pickT xe xe) ?_ | refine JO.py (Py.pickF xe ev_const) ?_)) | refine kF ?_ | refine JO.skipU rfl (Lk.ev (v := undef) xlk rfl) ?_
          first | (refine gT ?_; (refine oM ?_)) | refine kF ?_ | refine JO.skipU rfl (Lk.ev (v := undef) xlk rfl) ?_
          first | (refine gF ?_; (refine oM ?_)) | refine kT ?_ | refine JO.skipU rfl (Lk.ev (v := undef) xlk rfl) ?_
          first | (refine gF ?_; (refine JO.py (Py.idxS Tryz.underlying22 siz5 xe ev_const (by omega) xidx xmult) ?_)) | refine kT ?_ | refine JO.skipU rfl (Lk.ev (v := undef) xlk rfl) ?_
          first | (refine gF ?_; (refine JO.py (Py.load scal5 xe xpick xrow) ?_)) | refine kT ?_ | refine JO.skipU rfl (Lk.ev (v := undef) xlk rfl) ?_
          first | (refine gF ?_; (first | refine oD (Py.eql xe ev_const) ?_ | refine oU (Py.eql xe ev_const) ?_ | refine JO.py (Py.eql xe ev_const) ?_)) | refine kT ?_ | refine JO.skipU rfl (Lk.ev (v := undef) xlk rfl) ?_
          first | (refine gF ?_; (refine oM ?_)) | refine kT ?_ | refine JO.skipU rfl (Lk.ev (v := undef) xlk rfl) ?_
          first | (refine gT ?_; (refine oM ?_)) | refine kF ?_ | refine JO.skipU rfl (Lk.ev (v := undef) xlk rfl) ?_
          first | (refine gT ?_; (refine JO.py (Py.idxS Tryz.underlying22 siz5 xe ev_const (by omega) xidx xmult) ?_)) | refine kF ?_ | refine JO.skipU rfl (Lk.ev (v := undef) xlk rfl) ?_
          first | (refine gT ?_; (refine JO.py (Py.load scal5 xe xpick xrow) ?_)) | refine kF ?_ | refine JO.skipU rfl (Lk.ev (v := undef) xlk rfl) ?_
          refine gT ?_
          refine JO.py (Py.to (Py.andN xe ev_const (r_u8 (by omega)) (r_u8 (by omega)) (by decide)) (v' := .int .u8 (z0 : Nat)) (vint (by rw [← ez0]; rfl))) ?_
          by_cases q1 : 192 ≤ x1
          · skip
            have q3 := hz0.2.2 q1
            have hq : (x0 = 64 ∧ x1 < 64) ∨ (x0 = 127 ∧ 192 ≤ x1) := .inr ⟨q2, q1⟩
            first | (refine gT ?_; (first | refine oD (Py.eql xe ev_const) ?_ | refine oU (Py.eql xe ev_const) ?_ | refine JO.py (Py.eql xe ev_const) ?_)) | refine kF ?_ | refine JO.skipU rfl (Lk.ev (v := undef) xlk rfl) ?_
            first | (refine gF ?_; (first | refine JO.py (Py.pickT xe xe) ?_ | refine JO.py (Py.pickF xe ev_const) ?_)) | refine kT ?_ | refine JO.skipU rfl (Lk.ev (v := undef) xlk rfl) ?_
            first | (refine gT ?_; (first | refine JO.py (Py.pickT xe ev_const) ?_ | refine JO.py (Py.pickF xe xe) ?_)) | refine kF ?_ | refine JO.skipU rfl (Lk.ev (v := undef) xlk rfl) ?_
            first | refine JO.py (Py.pickT xe xe) ?_ | refine JO.py (Py.pickF xe ev_const) ?_
            refine oA ?_
            refine nC ?_
            refine cT ?_
            obtain ⟨d, hd⟩ : ∃ d, (w * 4 % 4294967296 + i) % 4294967296 / 4 = d := ⟨_, rfl⟩
            refine sR ?_
            refine oM ?_
            refine JO.py (Py.shl 2 4 xe ev_const rfl (by decide) (by decide) (m_u32 _)) ?_
            refine oM ?_
            first | refine JO.py (Py.conv cnv3_45 xe (w_u32 (by omega))) ?_ | refine JO.py (Py.conv cnv3_45 xe (m_u32 _)) ?_
            refine JO.py (Py.add xe xe (m_u32 _)) ?_
            refine JO.py (Py.to (Py.shr 2 4 xe ev_const rfl (by decide) (by decide) (by decide)) (v' := .int .u32 (d : Nat)) (vint (by omega))) ?_
            by_cases hbit : d / 4194304 % 2 = 1
            · skip
              have ht : 1069547520 + d % 4194304 + 1073741824 = (if d / 4194304 % 2 = 1 then 2143289344 else 1073741824) + d % 4194304 := by rw [if_pos hbit]; omega
              obtain ⟨z, hzz⟩ : ∃ z, 1069547520 + d % 4194304 + 1073741824 = z := ⟨_, rfl⟩
              refine oA ?_
              refine nC (JC.region ?_)
              refine oM ?_
              refine JO.py (Py.shr 22 4194304 xe ev_const rfl (by decide) (by decide) (by decide)) ?_
              refine JO.py (Py.mask 1 2 xe ev_const (by decide) (by decide) (by decide) (r_u32 (by omega)) (w_u32 (by omega))) ?_
              refine JO.py (Py.to (Py.neg xe (m_u32 _)) (v' := .int .u32 4294967295) (vint (by omega))) ?_
              refine JO.py (Py.to (Py.shl 22 4194304 xe ev_const rfl (by decide) (by decide) (m_u32 _)) (v' := .int .u32 4290772992) (vint (by decide))) ?_
              refine JO.py (Py.to (Py.andN xe ev_const (r_u32 (by omega)) (r_u32 (by omega)) (by decide)) (v' := .int .u32 1069547520) (vint (by rfl))) ?_
              refine oM ?_
              refine JO.py (Py.mask 22 4194304 xe ev_const (by decide) (by decide) (by decide) (r_u32 (by omega)) (w_u32 (by omega))) ?_
              refine JO.py (Py.to (Py.orN xe xe (r_u32 (by omega)) (r_u32 (by omega)) (by decide)) (v' := .int .u32 (1069547520 + d % 4194304 : Nat)) (vint (or_int (x := 1069547520) (y := d % 4194304) (by omega) (by omega) (or_at (k := 22) (a := 255) (b := 0) (by omega) (by omega))))) ?_
              refine JO.py (Py.to (Py.orN xe ev_const (r_u32 (by omega)) (r_u32 (by omega)) (by decide)) (v' := .int .u32 (z : Nat)) (vint (or_int (x := 1069547520 + d % 4194304) (y := 1073741824) (by omega) (by omega) ((or_lo (k := 30) (a := 1) (by omega) (by omega)).trans hzz)))) ?_
              have hW2 := hW.word (y := Bx.un z) (by omega) (by rw [Nat.zero_add, show bs.getD i 0 = x0 from e0, e1, e2, e3]; exact Bx.spE_t hq (by omega) (by rw [hw]; exact hd) (ht.symm.trans hzz))
              have hR2 := put4_ok (y0 := z / 16777216 % 256) (y1 := z / 65536 % 256) (y2 := z / 256 % 256) (y3 := z % 256) hR hW.len (by omega) (by omega) (by omega) (by omega) (by omega) (by omega)
              refine oA ?_
              refine JO.nil (JX.blockN (JX.code (JC.region ?_)))
              refine oM ?_
              refine oM ?_
              refine oM ?_
              refine oM ?_
              refine oM ?_
              refine JO.py (Py.shr 24 16777216 xe ev_const rfl (by decide) (by decide) (by decide)) ?_
              refine JO.py (Py.to (Py.conv cnv45_5 xe (m_u8 _)) (v' := vu8 (z / 16777216 % 256)) (vint (by omega))) ?_
              refine oM ?_
              refine JO.py (Py.shr 16 65536 xe ev_const rfl (by decide) (by decide) (by decide)) ?_
              refine JO.py (Py.to (Py.conv cnv45_5 xe (m_u8 _)) (v' := vu8 (z / 65536 % 256)) (vint (by omega))) ?_
              refine oM ?_
              refine JO.py (Py.shr 8 256 xe ev_const rfl (by decide) (by decide) (by decide)) ?_
              refine JO.py (Py.to (Py.conv cnv45_5 xe (m_u8 _)) (v' := vu8 (z / 256 % 256)) (vint (by omega))) ?_
              refine oM ?_
              refine JO.py (Py.to (Py.conv cnv45_5 xe (m_u8 _)) (v' := vu8 (z % 256)) (vint (by omega))) ?_
              refine JO.py (Py.idxS Tryz.underlying22 siz5 xe ev_const (by omega) xidx xmult) ?_
              refine JO.store siz5 xe xe (by first | rfl | assumption) xpick xsize xnorm ?_
              refine JO.py (Py.idxS Tryz.underlying22 siz5 xe ev_const (by omega) xidx xmult) ?_
              refine JO.store siz5 xe xe (by first | rfl | assumption) xpick xsize xnorm ?_
              refine JO.py (Py.idxS Tryz.underlying22 siz5 xe ev_const (by omega) xidx xmult) ?_
              refine JO.store siz5 xe xe (by first | rfl | assumption) xpick xsize xnorm ?_
              refine JO.py (Py.idxS Tryz.underlying22 siz5 xe ev_const (by omega) xidx xmult) ?_
              refine JO.store siz5 xe xe (by first | rfl | assumption) xpick xsize xnorm ?_
              refine JO.nil (JX.blockN (JX.code (JC.region ?_)))
              refine oM ?_
              refine JO.py (Py.add xe ev_const wI) ?_
              refine oA ?_
              refine JO.nil ?_
              refine JX.loop (i + 4, out ++ [z / 16777216 % 256, z / 65536 % 256, z / 256 % 256, z % 256], ((((cur.setIfInBounds (i + 0) (vu8 (z / 16777216 % 256))).setIfInBounds (i + 1) (vu8 (z / 65536 % 256))).setIfInBounds (i + 2) (vu8 (z / 256 % 256))).setIfInBounds (i + 3) (vu8 (z % 256)))) ⟨hW2, hR2, by simp only [Array.size_setIfInBounds]; exact hz2⟩ (by dsimp only; omega) xag xpkE
            · skip
              have ht : 0 + d % 4194304 + 1073741824 = (if d / 4194304 % 2 = 1 then 2143289344 else 1073741824) + d % 4194304 := by rw [if_neg hbit]; omega
              obtain ⟨z, hzz⟩ : ∃ z, 0 + d % 4194304 + 1073741824 = z := ⟨_, rfl⟩
              refine oA ?_
              refine nC (JC.region ?_)
              refine oM ?_
              refine JO.py (Py.shr 22 4194304 xe ev_const rfl (by decide) (by decide) (by decide)) ?_
              refine JO.py (Py.mask 1 2 xe ev_const (by decide) (by decide) (by decide) (r_u32 (by omega)) (w_u32 (by omega))) ?_
              refine JO.py (Py.to (Py.neg xe (m_u32 _)) (v' := .int .u32 0) (vint (by omega))) ?_
              refine JO.py (Py.to (Py.shl 22 4194304 xe ev_const rfl (by decide) (by decide) (m_u32 _)) (v' := .int .u32 0) (vint (by decide))) ?_
              refine JO.py (Py.to (Py.andN xe ev_const (r_u32 (by omega)) (r_u32 (by omega)) (by decide)) (v' := .int .u32 0) (vint (by rfl))) ?_
              refine oM ?_
              refine JO.py (Py.mask 22 4194304 xe ev_const (by decide) (by decide) (by decide) (r_u32 (by omega)) (w_u32 (by omega))) ?_
              refine JO.py (Py.to (Py.orN xe xe (r_u32 (by omega)) (r_u32 (by omega)) (by decide)) (v' := .int .u32 (0 + d % 4194304 : Nat)) (vint (or_int (x := 0) (y := d % 4194304) (by omega) (by omega) (or_at (k := 22) (a := 0) (b := 0) (by omega) (by omega))))) ?_
              refine JO.py (Py.to (Py.orN xe ev_const (r_u32 (by omega)) (r_u32 (by omega)) (by decide)) (v' := .int .u32 (z : Nat)) (vint (or_int (x := 0 + d % 4194304) (y := 1073741824) (by omega) (by omega) ((or_lo (k := 30) (a := 1) (by omega) (by omega)).trans hzz)))) ?_
              have hW2 := hW.word (y := Bx.un z) (by omega) (by rw [Nat.zero_add, show bs.getD i 0 = x0 from e0, e1, e2, e3]; exact Bx.spE_t hq (by omega) (by rw [hw]; exact hd) (ht.symm.trans hzz))
              have hR2 := put4_ok (y0 := z / 16777216 % 256) (y1 := z / 65536 % 256) (y2 := z / 256 % 256) (y3 := z % 256) hR hW.len (by omega) (by omega) (by omega) (by omega) (by omega) (by omega)
              refine oA ?_
              refine JO.nil (JX.blockN (JX.code (JC.region ?_)))
              refine oM ?_
              refine oM ?_
              refine oM ?_
              refine oM ?_
              refine oM ?_
              refine JO.py (Py.shr 24 16777216 xe ev_const rfl (by decide) (by decide) (by decide)) ?_
              refine JO.py (Py.to (Py.conv cnv45_5 xe (m_u8 _)) (v' := vu8 (z / 16777216 % 256)) (vint (by omega))) ?_
              refine oM ?_
              refine JO.py (Py.shr 16 65536 xe ev_const rfl (by decide) (by decide) (by decide)) ?_
              refine JO.py (Py.to (Py.conv cnv45_5 xe (m_u8 _)) (v' := vu8 (z / 65536 % 256)) (vint (by omega))) ?_
              refine oM ?_
              refine JO.py (Py.shr 8 256 xe ev_const rfl (by decide) (by decide) (by decide)) ?_
              refine JO.py (Py.to (Py.conv cnv45_5 xe (m_u8 _)) (v' := vu8 (z / 256 % 256)) (vint (by omega))) ?_
              refine oM ?_
              refine JO.py (Py.to (Py.conv cnv45_5 xe (m_u8 _)) (v' := vu8 (z % 256)) (vint (by omega))) ?_
              refine JO.py (Py.idxS Tryz.underlying22 siz5 xe ev_const (by omega) xidx xmult) ?_
              refine JO.store siz5 xe xe (by first | rfl | assumption) xpick xsize xnorm ?_
              refine JO.py (Py.idxS Tryz.underlying22 siz5 xe ev_const (by omega) xidx xmult) ?_
              refine JO.store siz5 xe xe (by first | rfl | assumption) xpick xsize xnorm ?_
              refine JO.py (Py.idxS Tryz.underlying22 siz5 xe ev_const (by omega) xidx xmult) ?_
              refine JO.store siz5 xe xe (by first | rfl | assumption) xpick xsize xnorm ?_
              refine JO.py (Py.idxS Tryz.underlying22 siz5 xe ev_const (by omega) xidx xmult) ?_
              refine JO.store siz5 xe xe (by first | rfl | assumption) xpick xsize xnorm ?_
              refine JO.nil (JX.blockN (JX.code (JC.region ?_)))
              refine oM ?_
              refine JO.py (Py.add xe ev_const wI) ?_
              refine oA ?_
              refine JO.nil ?_
              refine JX.loop (i + 4, out ++ [z / 16777216 % 256, z / 65536 % 256, z / 256 % 256, z % 256], ((((cur.setIfInBounds (i + 0) (vu8 (z / 16777216 % 256))).setIfInBounds (i + 1) (vu8 (z / 65536 % 256))).setIfInBounds (i + 2) (vu8 (z / 256 % 256))).setIfInBounds (i + 3) (vu8 (z % 256)))) ⟨hW2, hR2, by simp only [Array.size_setIfInBounds]; exact hz2⟩ (by dsimp only; omega) xag xpkE
          · skip
            have q3 : ¬ z0 = 192 := fun q => q1 (hz0.2.1 q)
            have hq : ¬ ((x0 = 64 ∧ x1 < 64) ∨ (x0 = 127 ∧ 192 ≤ x1)) := by omega
            first | (refine gT ?_; (first | refine oD (Py.eql xe ev_const) ?_ | refine oU (Py.eql xe ev_const) ?_ | refine JO.py (Py.eql xe ev_const) ?_)) | refine kF ?_ | refine JO.skipU rfl (Lk.ev (v := undef) xlk rfl) ?_
            first | (refine gF ?_; (first | refine JO.py (Py.pickT xe xe) ?_ | refine JO.py (Py.pickF xe ev_const) ?_)) | refine kT ?_ | refine JO.skipU rfl (Lk.ev (v := undef) xlk rfl) ?_
            first | (refine gT ?_; (first | refine JO.py (Py.pickT xe ev_const) ?_ | refine JO.py (Py.pickF xe xe) ?_)) | refine kF ?_ | refine JO.skipU rfl (Lk.ev (v := undef) xlk rfl) ?_
            first | refine JO.py (Py.pickT xe xe) ?_ | refine JO.py (Py.pickF xe ev_const) ?_
            refine oA ?_
            refine nC ?_
            refine cF ?_
            refine JC.exit (JX.blockO rfl (JX.exit (JX.blockE (JX.code (JC.region ?_)))))
            refine oM ?_
            refine JO.py (Py.add xe ev_const wI) ?_
            refine oA ?_
            refine JO.nil ?_
            have hW2 := hW.word (y := (x0, x1, x2, x3)) (by omega) (by rw [Nat.zero_add, show bs.getD i 0 = x0 from e0, e1, e2, e3]; exact Bx.spE_f hq)
            refine JX.loop (i + 4, out ++ [x0, x1, x2, x3], cur) ⟨hW2, by dsimp only; rw [← e0, ← e1, ← e2, ← e3]; show RdOk cur 0 ((out ++ [bs.getD i 0, bs.getD (i + 1) 0, bs.getD (i + 2) 0, bs.getD (i + 3) 0]) ++ bs.drop (i + 4)); rw [Bx.cat_keep (by omega)]; exact hR, hz2⟩ (by dsimp only; omega) xag xpkE
        · skip
          have hq : ¬ ((x0 = 64 ∧ x1 < 64) ∨ (x0 = 127 ∧ 192 ≤ x1)) := by omega
          first | (refine gT ?_; (refine oM ?_)) | refine kF ?_ | refine JO.skipU rfl (Lk.ev (v := undef) xlk rfl) ?_
          first | (refine gT ?_; (refine oM ?_)) | refine kF ?_ | refine JO.skipU rfl (Lk.ev (v := undef) xlk rfl) ?_
          first | (refine gT ?_; (refine JO.py (Py.idxS Tryz.underlying22 siz5 xe ev_const (by omega) xidx xmult) ?_)) | refine kF ?_ | refine JO.skipU rfl (Lk.ev (v := undef) xlk rfl) ?_
          first | (refine gT ?_; (refine JO.py (Py.load scal5 xe xpick xrow) ?_)) | refine kF ?_ | refine JO.skipU rfl (Lk.ev (v := undef) xlk rfl) ?_
          first | (refine gT ?_; (refine JO.py (Py.andN xe ev_const (r_u8 (by omega)) (r_u8 (by omega)) (by decide)) ?_)) | refine kF ?_ | refine JO.skipU rfl (Lk.ev (v := undef) xlk rfl) ?_
          first | (refine gT ?_; (first | refine oD (Py.eql xe ev_const) ?_ | refine oU (Py.eql xe ev_const) ?_ | refine JO.py (Py.eql xe ev_const) ?_)) | refine kF ?_ | refine JO.skipU rfl (Lk.ev (v := undef) xlk rfl) ?_
          first | (refine gT ?_; (first | refine JO.py (Py.pickT xe xe) ?_ | refine JO.py (Py.pickF xe ev_const) ?_)) | refine kF ?_ | refine JO.skipU rfl (Lk.ev (v := undef) xlk rfl) ?_
          first | (refine gT ?_; (refine oM ?_)) | refine kF ?_ | refine JO.skipU rfl (Lk.ev (v := undef) xlk rfl) ?_
          first | (refine gF ?_; (refine oM ?_)) | refine kT ?_ | refine JO.skipU rfl (Lk.ev (v := undef) xlk rfl) ?_
          first | (refine gF ?_; (refine JO.py (Py.idxS Tryz.underlying22 siz5 xe ev_const (by omega) xidx xmult) ?_)) | refine kT ?_ | refine JO.skipU rfl (Lk.ev (v := undef) xlk rfl) ?_
          first | (refine gF ?_; (refine JO.py (Py.load scal5 xe xpick xrow) ?_)) | refine kT ?_ | refine JO.skipU rfl (Lk.ev (v := undef) xlk rfl) ?_
          first | (refine gF ?_; (first | refine oD (Py.eql xe ev_const) ?_ | refine oU (Py.eql xe ev_const) ?_ | refine JO.py (Py.eql xe ev_const) ?_)) | refine kT ?_ | refine JO.skipU rfl (Lk.ev (v := undef) xlk rfl) ?_
          first | (refine gF ?_; (refine oM ?_)) | refine kT ?_ | refine JO.skipU rfl (Lk.ev (v := undef) xlk rfl) ?_
          first | (refine gT ?_; (refine oM ?_)) | refine kF ?_ | refine JO.skipU rfl (Lk.ev (v := undef) xlk rfl) ?_
          first | (refine gT ?_; (refine JO.py (Py.idxS Tryz.underlying22 siz5 xe ev_const (by omega) xidx xmult) ?_)) | refine kF ?_ | refine JO.skipU rfl (Lk.ev (v := undef) xlk rfl) ?_
          first | (refine gT ?_; (refine JO.py (Py.load scal5 xe xpick xrow) ?_)) | refine kF ?_ | refine JO.skipU rfl (Lk.ev (v := undef) xlk rfl) ?_
          first | (refine gT ?_; (refine JO.py (Py.andN xe ev_const (r_u8 (by omega)) (r_u8 (by omega)) (by decide)) ?_)) | refine kF ?_ | refine JO.skipU rfl (Lk.ev (v := undef) xlk rfl) ?_
          first | (refine gT ?_; (first | refine oD (Py.eql xe ev_const) ?_ | refine oU (Py.eql xe ev_const) ?_ | refine JO.py (Py.eql xe ev_const) ?_)) | refine kF ?_ | refine JO.skipU rfl (Lk.ev (v := undef) xlk rfl) ?_
          first | (refine gF ?_; (first | refine JO.py (Py.pickT xe xe) ?_ | refine JO.py (Py.pickF xe ev_const) ?_)) | refine kT ?_ | refine JO.skipU rfl (Lk.ev (v := undef) xlk rfl) ?_
          first | (refine gT ?_; (first | refine JO.py (Py.pickT xe ev_const) ?_ | refine JO.py (Py.pickF xe xe) ?_)) | refine kF ?_ | refine JO.skipU rfl (Lk.ev (v := undef) xlk rfl) ?_
          first | refine JO.py (Py.pickT xe xe) ?_ | refine JO.py (Py.pickF xe ev_const) ?_
          refine oA ?_
          refine nC ?_
          refine cF ?_
          refine JC.exit (JX.blockO rfl (JX.exit (JX.blockE (JX.code (JC.region ?_)))))
          refine oM ?_
          refine JO.py (Py.add xe ev_const wI) ?_
          refine oA ?_
          refine JO.nil ?_
          have hW2 := hW.word (y := (x0, x1, x2, x3)) (by omega) (by rw [Nat.zero_add, show bs.getD i 0 = x0 from e0, e1, e2, e3]; exact Bx.spE_f hq)
          refine JX.loop (i + 4, out ++ [x0, x1, x2, x3], cur) ⟨hW2, by dsimp only; rw [← e0, ← e1, ← e2, ← e3]; show RdOk cur 0 ((out ++ [bs.getD i 0, bs.getD (i + 1) 0, bs.getD (i + 2) 0, bs.getD (i + 3) 0]) ++ bs.drop (i + 4)); rw [Bx.cat_keep (by omega)]; exact hR, hz2⟩ (by dsimp only; omega) xag xpkE
    · skip
      refine JC.seq (sR ?_)
      refine oM ?_
      refine JO.py (Py.add xe ev_const wI) ?_
      refine oM ?_
      refine JO.py (Py.lenS Tryz.underlying22 xe) ?_
      first | refine oD (Py.leq xe xe) ?_ | refine oU (Py.leq xe xe) ?_ | refine JO.py (Py.leq xe xe) ?_
      refine nC ?_
      refine cF ?_
      refine JC.exit (JX.exit (JX.exit (JX.blockE (JX.code (sR ?_)))))
      refine oM ?_
      refine oA ?_
      refine nC (JC.ret ?_)
      have hlast := hW.last (by omega)
      refine JX.torow (b := rb) (e := 5) (m := bl) (cap := rc) (xs := u8s (Bx.wmap Bx.spE 0 bs)) xpick (by rw [← hlast]; exact hR.row hz2 (by rw [Bx.cat_len hlen hle]; omega) hrlt) (by rw [u8s_len, ← hlast, Bx.cat_len hlen hle]; exact hbl) ?_
      refine JX.end1 (Or.inl rfl) (_) Tryz.results13 ((xe).trans (by first | exact xval | (dsimp only; exact xval))) xpkE
theorem spec_con (G : Gst) (k : Nat) (hk : k < 4) (bb ob bl bc : Nat) (ba : Option Addr) (hba : 0 < bl → ba = some ⟨bb, ob, none⟩ ∧ bl ≤ bc) (cs : Array Value) (Tb : TypeId) (fr : Nat × Nat) (bs : List Nat) (hb : RdOk cs ob bs) (hbl : bs.length = bl) (h3 : bl ≤ 3000) :
    Con Tryz.prog G 13 #[.int .i64 (k : Int), .slice ba bl bc] [blk bb (.cells cs Tb fr)] (fun x : Value => x) (fun x => [Row 5 x (u8s (encK k bs)), blk bb (.cells cs Tb fr)]) := by
  obtain rfl | rfl | rfl | rfl : k = 0 ∨ k = 1 ∨ k = 2 ∨ k = 3 := by omega
  · exact spec0_con G bb ob bl bc ba hba cs Tb fr bs hb hbl h3
  · exact spec1_con G bb ob bl bc ba hba cs Tb fr bs hb hbl h3
  · exact spec2_con G bb ob bl bc ba hba cs Tb fr bs hb hbl h3
  · exact spec3_con G bb ob bl bc ba hba cs Tb fr bs hb hbl h3
end Go.Proofs.YtfpepghmbeoanaaGreatDoor
