/-
BCJ (x86), undone in memory.
-/
import Derived.Test.YtfpepghmbeoanaaGreatDoorR04
set_option linter.unusedSimpArgs false
set_option linter.unusedVariables false
open Go Go.RowKit
namespace Go.Proofs.YtfpepghmbeoanaaGreatDoor
theorem win5 {cs : Array Value} {o i j p : Nat} {out bs : List Nat} (hR : RdOk cs o (out ++ bs.drop i)) (hl : out.length = i) (hj : i + j < bs.length) (hp : p = o + (i + j)) {x : Nat} (hx : bs.getD (i + j) 0 = x) : cs[p]? = some (vu8 x) ∧ x < 256 := by
  subst hp hx
  have hlen := Bx.cat_len (xs := bs) hl (by omega)
  have h := hR (i + j) (by omega)
  rw [Bx.cat_get hl (by omega)] at h
  exact h
theorem put5_ok {cs : Array Value} {o p x0 y1 y2 y3 z y4 : Nat} {out bs : List Nat} (hR : RdOk cs o (out ++ bs.drop p)) (hl : out.length = p) (hi : p + 5 ≤ bs.length) (hs : o + bs.length ≤ cs.size) (hx : bs.getD p 0 = x0) (h1 : y1 < 256) (h2 : y2 < 256) (h3 : y3 < 256) (h5 : z < 256) (h4 : y4 < 256) :
    RdOk (((((cs.setIfInBounds (o + (p + 1) + 0) (vu8 y1)).setIfInBounds (o + (p + 1) + 1) (vu8 y2)).setIfInBounds (o + (p + 1) + 2) (vu8 y3)).setIfInBounds (o + (p + 1) + 3) (vu8 z)).setIfInBounds (o + (p + 4)) (vu8 y4)) o ((out ++ [x0, y1, y2, y3, y4]) ++ bs.drop (p + 5)) := by
  have hlen := Bx.cat_len (xs := bs) hl (by omega)
  subst hx
  rw [← Bx.cat_conv (z := z) hl hi]
  refine RdOk.set (RdOk.set (RdOk.set (RdOk.set (RdOk.set hR ?_ ?_ h1 ?_) ?_ ?_ h2 ?_) ?_ ?_ h3 ?_) ?_ ?_ h5 ?_) ?_ ?_ h4 ?_ <;> first | omega | (simp only [List.length_set, Array.size_setIfInBounds, hlen]; omega)
theorem put5_get {cs : Array Value} {o p : Nat} {v1 v2 v3 v4 : Value} (hs : o + p + 5 ≤ cs.size) : ((((cs.setIfInBounds (o + (p + 1) + 0) v1).setIfInBounds (o + (p + 1) + 1) v2).setIfInBounds (o + (p + 1) + 2) v3).setIfInBounds (o + (p + 1) + 3) v4)[o + (p + 4)]? = some v4 := by
  rw [show o + (p + 4) = o + (p + 1) + 3 by omega]
  rw [Array.getElem?_setIfInBounds_self, if_pos (by simp only [Array.size_setIfInBounds]; omega)]
set_option maxRecDepth 100000 in
theorem and_254 : ∀ x, x < 256 → ((x &&& 254) = 232 ↔ Bx.op x = true) := by decide
theorem pow_step {m p pos : Nat} (h : pos ≤ p) : m / 2 ^ (p - pos) / 2 = m / 2 ^ (p + 1 - pos) := by
  rw [Nat.div_div_eq_div_mul, ← Nat.pow_succ]
  congr 2; omega
theorem pow_far {m d : Nat} (hm : m ≤ 7) (hd : 2 < d) : m / 2 ^ d = 0 := by
  have : 2 ^ 3 ≤ 2 ^ d := Nat.pow_le_pow_right (by decide) (by omega)
  exact Nat.div_eq_of_lt (by omega)
theorem skip_of {m x1 x2 x3 : Nat} (h : 4 < m ∨ m = 3) : Bx.skip m x1 x2 x3 = true := by
  unfold Bx.skip
  rcases h with h | h
  · simp [h]; omega
  · simp [h]
theorem le32_lt {x1 x2 x3 x4 : Nat} (h0 : x1 < 256) (h1 : x2 < 256) (h2 : x3 < 256) (h3 : x4 < 256) : Bx.le x1 x2 x3 x4 < 4294967296 := by unfold Bx.le; omega
set_option maxRecDepth 100000 in
set_option maxHeartbeats 8000000 in
theorem bcjConv_con (G : Gst) (cb ip mk b o l c : Nat) (cs : Array Value) (bs : List Nat) (hb : RdOk cs o bs) (hl : bs.length = l) (hs : o + l ≤ cs.size) (h4 : 5 ≤ l) (hc : l ≤ c) (hip : ip + l ≤ 100000) (hmk : mk ≤ 7) :
    Con Tryz.prog G 259 #[.pointer (some ⟨cb, 0, none⟩), .slice (some ⟨b, o, none⟩) l c, .bool false] [cel cb 123 #[.int .u32 (ip : Nat), .int .u32 (mk : Nat)], cel b 5 cs]
      (fun x : {x : Nat × Nat × List Nat × Array Value // Bx.DecP ip mk bs x.1 x.2.1 x.2.2.1 ∧ l < x.1 + 5 ∧ RdOk x.2.2.2 o (x.2.2.1 ++ bs.drop x.1) ∧ x.2.2.2.size = cs.size} => .int .i64 (x.1.1 : Nat))
      (fun x => [cel cb 123 #[.int .u32 (ip + x.1.1 : Nat), .int .u32 (x.1.2.1 : Nat)], cel b 5 x.1.2.2.2]) := by
  refine Con.intro Tryz.func259 rfl (by kernel_rfl) Tryz.ntmps259 (Nat.le_of_ble_eq_true rfl) ?_
  intro F
  show JC _ _ _ _ _ _ [(0, _), (1, _), (2, _)] _ [_, _, _]
  refine sR ?_
  refine oC ?_
  refine nC (JC.seq (sR ?_))
  refine oM ?_
  refine JO.py (Py.lenS Tryz.underlying22 xe) ?_
  refine oM ?_
  refine JO.call (Evs.cons xe Evs.nil) (size5_con G (.pointer (some ⟨cb, 0, none⟩)) (cel cb 123 #[.int .u32 (ip : Nat), .int .u32 (mk : Nat)])) xpkE ?_
  rintro _
  show JO _ _ _ _ _ _ _ ((17, _) :: _) _ (_ :: _ :: _)
  first | refine oD (Py.lss xe xe) ?_ | refine oU (Py.lss xe xe) ?_ | refine JO.py (Py.lss xe xe) ?_
  refine nC ?_
  refine cF ?_
  refine JC.skip (JX.code (sR ?_))
  refine oC ?_
  refine nC (sR ?_)
  refine oM ?_
  refine JO.py (Py.nil xe) ?_
  refine JO.py (Py.fld fld123_1 xe xoff) ?_
  refine JO.py (Py.load scal45 xe xpick xrow) ?_
  refine JO.py (Py.mask 3 8 xe ev_const (by decide) (by decide) (by decide) (r_u32 (by omega)) (w_u32 (by omega))) ?_
  refine oA ?_
  refine nC (JC.block ?_)
  refine JC.loop (ι := Nat × Nat × List Nat × Array Value) (fun x => Bx.DecP ip mk bs x.1 x.2.1 x.2.2.1 ∧ RdOk x.2.2.2 o (x.2.2.1 ++ bs.drop x.1) ∧ x.2.2.2.size = cs.size) (fun x => [(0, .pointer (some ⟨cb, 0, none⟩)), (1, .slice (some ⟨b, o, none⟩) l c), (2, .bool false), (7, .int .u32 (x.1 : Nat)), (8, .int .u32 (x.2.1 : Nat))]) (fun x => [cel cb 123 #[.int .u32 (ip : Nat), .int .u32 (mk : Nat)], cel b 5 x.2.2.2, F]) (fun x => l - x.1) (0, mk, [], cs) ⟨Bx.DecP.zero hmk, by simpa using hb, rfl⟩ xag xpkE ?_
  rintro ⟨pos, m, out, cs'⟩ base' ⟨hD, hR, hz⟩
  dsimp only at hD hR hz ⊢
  have hple := hD.le
  have hm7 := hD.m7
  refine JC.block (sR ?_)
  refine oM ?_
  refine oA ?_
  refine nC (JC.seq (JC.block ?_))
  refine JC.loop (ι := Nat × List Nat) (fun x => pos ≤ x.1 ∧ Bx.DecP ip mk bs x.1 (m / 2 ^ (x.1 - pos)) x.2 ∧ RdOk cs' o (x.2 ++ bs.drop x.1)) (fun x => [(0, .pointer (some ⟨cb, 0, none⟩)), (1, .slice (some ⟨b, o, none⟩) l c), (2, .bool false), (7, .int .u32 (pos : Nat)), (8, .int .u32 (m : Nat)), (9, .int .u32 (x.1 : Nat))]) (fun x => [cel cb 123 #[.int .u32 (ip : Nat), .int .u32 (mk : Nat)], cel b 5 cs', F]) (fun x => l - x.1) (pos, out) ⟨Nat.le_refl _, by dsimp only; rw [Nat.sub_self, Nat.pow_zero, Nat.div_one]; exact hD, hR⟩ xag xpkE ?_
  clear hD hR
  rintro ⟨p, out⟩ base2 ⟨hpp, hD, hR⟩
  dsimp only at hpp hD hR ⊢
  have hle := hD.le
  have hlen := hD.len
  by_cases h : p + 4 < l
  · skip
    have h5 : p + 5 ≤ bs.length := by omega
    obtain ⟨x0, e0⟩ : ∃ x, bs.getD p 0 = x := ⟨_, rfl⟩
    obtain ⟨x1, e1⟩ : ∃ x, bs.getD (p + 1) 0 = x := ⟨_, rfl⟩
    obtain ⟨x2, e2⟩ : ∃ x, bs.getD (p + 2) 0 = x := ⟨_, rfl⟩
    obtain ⟨x3, e3⟩ : ∃ x, bs.getD (p + 3) 0 = x := ⟨_, rfl⟩
    obtain ⟨x4, e4⟩ : ∃ x, bs.getD (p + 4) 0 = x := ⟨_, rfl⟩
    obtain ⟨c0, l0⟩ := win5 (p := o + p) (j := 0) hR hlen (by omega) rfl e0
    obtain ⟨c1, l1⟩ := win5 (p := o + (p + 1)) hR hlen (by omega) rfl e1
    obtain ⟨c2, l2⟩ := win5 (p := o + (p + 2)) hR hlen (by omega) rfl e2
    obtain ⟨c3, l3⟩ := win5 (p := o + (p + 3)) hR hlen (by omega) rfl e3
    obtain ⟨c4, l4⟩ := win5 (p := o + (p + 4)) hR hlen (by omega) rfl e4
    have k1 : cs'[o + (p + 1) + 0]? = some (vu8 x1) ∧ x1 < 256 := win5 hR hlen (by omega) (by omega) e1
    have k2 : cs'[o + (p + 1) + 1]? = some (vu8 x2) ∧ x2 < 256 := win5 hR hlen (by omega) (by omega) e2
    have k3 : cs'[o + (p + 1) + 2]? = some (vu8 x3) ∧ x3 < 256 := win5 hR hlen (by omega) (by omega) e3
    have k4 : cs'[o + (p + 1) + 3]? = some (vu8 x4) ∧ x4 < 256 := win5 hR hlen (by omega) (by omega) e4
    have hz0 := and_254 x0 l0
    obtain ⟨z0, ez0⟩ : ∃ z, x0 &&& 254 = z := ⟨_, rfl⟩
    rw [ez0] at hz0
    refine JC.seq (sR ?_)
    refine oM ?_
    first | refine JO.py (Py.conv cnv45_3 xe wI) ?_ | refine JO.py (Py.conv cnv45_3 xe rfl) ?_
    refine oM ?_
    refine JO.py (Py.lenS Tryz.underlying22 xe) ?_
    refine JO.py (Py.sub xe ev_const wI) ?_
    first | refine oD (Py.lss xe xe) ?_ | refine oU (Py.lss xe xe) ?_ | refine JO.py (Py.lss xe xe) ?_
    refine nC ?_
    refine cT ?_
    refine JC.skip (JX.code (JC.seq (JC.block (sR ?_))))
    refine oM ?_
    refine oM ?_
    refine JO.py (Py.idxS (j := p) Tryz.underlying22 siz5 xe xe (by omega) (by omega) xmult) ?_
    refine JO.py (Py.load scal5 xe xpick xrow) ?_
    refine JO.py (Py.to (Py.andN xe ev_const (r_u8 (by omega)) (r_u8 (by omega)) (by decide)) (v' := .int .u8 (z0 : Nat)) (vint (by rw [← ez0]; rfl))) ?_
    by_cases hop : Bx.op x0 = true
    · skip
      have q0 := hz0.2 hop
      obtain ⟨m1, hm1⟩ : ∃ k, m / 2 ^ (p - pos) = k := ⟨_, rfl⟩
      rw [hm1] at hD
      have hm17 := hD.m7
      first | refine oD (Py.eql xe ev_const) ?_ | refine oU (Py.eql xe ev_const) ?_ | refine JO.py (Py.eql xe ev_const) ?_
      refine nC ?_
      refine cT ?_
      refine JC.exit (JX.blockO rfl (JX.exit (JX.exit (JX.blockE (JX.code (sR ?_))))))
      refine oM ?_
      refine oM ?_
      first | refine JO.py (Py.sub xe xe (w_u32 (by omega))) ?_ | refine JO.py (Py.sub xe xe (m_u32 _)) ?_
      refine oA ?_
      refine nC (sR ?_)
      refine oM ?_
      refine oA ?_
      refine nC (JC.seq (sR ?_))
      refine oM ?_
      first | refine JO.py (Py.conv cnv45_3 xe wI) ?_ | refine JO.py (Py.conv cnv45_3 xe rfl) ?_
      refine oM ?_
      refine JO.py (Py.lenS Tryz.underlying22 xe) ?_
      refine JO.py (Py.sub xe ev_const wI) ?_
      first | refine oD (Py.geq xe xe) ?_ | refine oU (Py.geq xe xe) ?_ | refine JO.py (Py.geq xe xe) ?_
      refine nC ?_
      refine cF ?_
      by_cases hd : 2 < p - pos
      · skip
        obtain rfl : m1 = 0 := by rw [← hm1]; exact pow_far hm7 hd
        refine JC.skip (JX.code (JC.seq (sR ?_)))
        refine oM ?_
        first | refine oD (Py.gtr xe ev_const) ?_ | refine oU (Py.gtr xe ev_const) ?_ | refine JO.py (Py.gtr xe ev_const) ?_
        refine nC ?_
        refine cT ?_
        have hns : Bx.skip 0 x1 x2 x3 = false := rfl
        refine JC.region ?_
        refine oC ?_
        refine nC (sR ?_)
        refine oM ?_
        refine oM ?_
        first | refine JO.py (Py.add xe ev_const (w_u32 (by omega))) ?_ | refine JO.py (Py.add xe ev_const (m_u32 _)) ?_
        refine JO.py (Py.idxS (j := p + 4) Tryz.underlying22 siz5 xe xe (by omega) (by omega) xmult) ?_
        refine JO.py (Py.load scal5 xe xpick xrow) ?_
        refine JO.call (Evs.cons xe Evs.nil) (test86_con G x4 l4) xpkE ?_
        rintro _
        show JO _ _ _ _ _ _ _ ((106, _) :: _) _ (_ :: _)
        cases hf4 : Bx.far x4
        · skip
          refine nC ?_
          refine cF ?_
          refine sR ?_
          refine oM ?_
          refine JO.py (Py.shr 1 2 xe ev_const rfl (by decide) (by decide) (by decide)) ?_
          refine JO.py (Py.to (Py.orN xe ev_const (r_u32 (by omega)) (r_u32 (by omega)) (by decide)) (v' := .int .u32 (0 / 2 + 4 : Nat)) (vint (or_int (x := 0 / 2) (y := 4) (by omega) rfl (or_lo (k := 2) (a := 1) (by omega) rfl)))) ?_
          refine oA ?_
          refine nC (JC.region ?_)
          refine oM ?_
          first | refine JO.py (Py.add xe ev_const (w_u32 (by omega))) ?_ | refine JO.py (Py.add xe ev_const (m_u32 _)) ?_
          refine oA ?_
          refine JO.nil (JX.blockN ?_)
          refine JX.loop (p + 1, 0 / 2 + 4, out ++ [x0], cs') ⟨by dsimp only; rw [← e0]; exact hD.left h5 (by rw [e0]; exact hop) (by rw [e1, e2, e3, e4]; exact .inr hf4), by dsimp only; rw [← e0, Bx.cat_next (by omega)]; exact hR, hz⟩ (by dsimp only; omega) xag xpkE
        · skip
          refine nC ?_
          refine cT ?_
          refine sR ?_
          refine oM ?_
          refine oM ?_
          first | refine JO.py (Py.add xe ev_const (w_u32 (by omega))) ?_ | refine JO.py (Py.add xe ev_const (m_u32 _)) ?_
          refine JO.py (Py.slc (l := p + 1) (h := l) (p := o + (p + 1)) (q := l - (p + 1)) (c := c - (p + 1)) Tryz.underlying22 siz5 xe (Bd.some xe (by omega)) Bd.none (by omega) (by omega) (by omega) (by omega) (by omega) (by omega)) ?_
          refine JO.call (Evs.cons xe Evs.nil) (le32_con G b (o + (p + 1)) (l - (p + 1)) (c - (p + 1)) 5 (0, 0) cs' x1 x2 x3 x4 (by omega) k1 k2 k3 k4) xpkE ?_
          rintro _
          show JO _ _ _ _ _ _ _ ((111, _) :: _) _ (_ :: _ :: _)
          have hwl := le32_lt l1 l2 l3 l4
          obtain ⟨w, hw⟩ : ∃ w, Bx.le x1 x2 x3 x4 = w := ⟨_, rfl⟩
          rw [hw] at hwl ⊢
          refine oA ?_
          refine nC (JC.seq ?_)
          refine JC.regionM [(0, true), (1, true), (2, true), (3, true), (4, true), (8, true), (5, false), (6, true), (7, true), (9, true), (10, true)] mixed (by kernel_rfl) ?_
          refine JM.py ao ⟨fun _ => Py.move xe⟩ ?_
          refine JM.py ao ⟨fun _ => Py.nil xe⟩ ?_
          refine JM.py ao ⟨fun _ => Py.fld fld123_0 xe xoff⟩ ?_
          refine JM.ld ao scal45 xe xpick xrow ?_
          refine JM.py ao ⟨fun _ => Py.move xe⟩ ?_
          refine JM.py ao ⟨fun _ => Py.move xe⟩ ?_
          refine JM.eff ao ?_
          refine JO.call (Evs.cons xe Evs.nil) (size5_con G (.pointer (some ⟨cb, 0, none⟩)) (cel cb 123 #[.int .u32 (ip : Nat), .int .u32 (mk : Nat)])) xpkE ?_
          rintro _
          show JO _ _ _ _ _ _ _ ((117, _) :: _) _ (_ :: _ :: _)
          refine JO.nil ?_
          refine JX.mix (Kept.keep (fun _ hw => hw.cell xpick xrow) Kept.nil) ?_
          first | refine JM.py ao ⟨fun _ => Py.conv cnv3_45 xe (w_u32 (by omega))⟩ ?_ | refine JM.py ao ⟨fun _ => Py.conv cnv3_45 xe (m_u32 _)⟩ ?_
          first | refine JM.py ao ⟨fun _ => Py.add xe xe (w_u32 (by omega))⟩ ?_ | refine JM.py ao ⟨fun _ => Py.add xe xe (m_u32 _)⟩ ?_
          first | refine JM.py ao ⟨fun _ => Py.add xe xe (w_u32 (by omega))⟩ ?_ | refine JM.py ao ⟨fun _ => Py.add xe xe (m_u32 _)⟩ ?_
          refine JM.py ao ⟨fun _ => Py.assign xe⟩ ?_
          refine JM.nil (JX.code (sR ?_))
          refine oM ?_
          refine oM ?_
          refine JO.call (Evs.cons xe Evs.nil) (size5_con G (.pointer (some ⟨cb, 0, none⟩)) (cel cb 123 #[.int .u32 (ip : Nat), .int .u32 (mk : Nat)])) xpkE ?_
          rintro _
          show JO _ _ _ _ _ _ _ ((124, _) :: _) _ (_ :: _ :: _)
          first | refine JO.py (Py.conv cnv3_45 xe (w_u32 (by omega))) ?_ | refine JO.py (Py.conv cnv3_45 xe (m_u32 _)) ?_
          first | refine JO.py (Py.add xe xe (w_u32 (by omega))) ?_ | refine JO.py (Py.add xe xe (m_u32 _)) ?_
          refine oA ?_
          refine nC (JC.seq (sR ?_))
          refine oM ?_
          refine nC ?_
          refine cF ?_
          obtain ⟨v, hv⟩ : ∃ v, (w + (4294967296 - (ip + p + 5) % 4294967296)) % 4294967296 = v := ⟨_, rfl⟩
          have hvl : v < 4294967296 := by omega
          refine JC.region ?_
          refine oM ?_
          refine oM ?_
          refine JO.py (Py.to (Py.sub xe xe (m_u32 _)) (v' := .int .u32 (v : Nat)) (vint (by omega))) ?_
          refine oA ?_
          refine nC (JC.seq (sR ?_))
          refine oM ?_
          first | refine oD (Py.neq xe ev_const) ?_ | refine oU (Py.neq xe ev_const) ?_ | refine JO.py (Py.neq xe ev_const) ?_
          refine nC ?_
          refine cF ?_
          refine JC.skip (JX.code (sR ?_))
          refine oM ?_
          refine oM ?_
          first | refine JO.py (Py.add xe ev_const (w_u32 (by omega))) ?_ | refine JO.py (Py.add xe ev_const (m_u32 _)) ?_
          refine JO.py (Py.slc (l := p + 1) (h := l) (p := o + (p + 1)) (q := l - (p + 1)) (c := c - (p + 1)) Tryz.underlying22 siz5 xe (Bd.some xe (by omega)) Bd.none (by omega) (by omega) (by omega) (by omega) (by omega) (by omega)) ?_
          refine oM ?_
          refine JO.call (Evs.cons xe (Evs.cons xe Evs.nil)) (putLE_con G b (o + (p + 1)) (l - (p + 1)) (c - (p + 1)) cs' (vu8 x4) v _ _ _ _ (by omega) (by omega) k4.1 (by omega) rfl rfl rfl rfl) xpkE ?_
          rintro _
          show JO _ _ _ _ _ _ _ ((161, _) :: _) _ (_ :: _ :: _)
          have g4 := put5_get (cs := cs') (o := o) (p := p) (v1 := vu8 (v / 1 % 256)) (v2 := vu8 (v / 256 % 256)) (v3 := vu8 (v / 65536 % 256)) (v4 := vu8 (v / 16777216 % 256)) (by omega)
          have hR2 := put5_ok (y1 := v / 1 % 256) (y2 := v / 256 % 256) (y3 := v / 65536 % 256) (z := v / 16777216 % 256) (y4 := Bx.by4 v) hR hlen h5 (by omega) e0 (by omega) (by omega) (by omega) (by omega) (by unfold Bx.by4; split <;> omega)
          have hD2 := hD.conv (v := v) h5 (by rw [e0]; exact hop) (by rw [e1, e2, e3]; exact hns) (by rw [e4]; exact hf4) (by rw [e1, e2, e3, e4, hw]; exact hv)
          rw [e0] at hD2
          rw [Nat.div_one v] at hR2 g4 ⊢
          obtain ⟨cs2, hcs2⟩ : ∃ y, ((((cs'.setIfInBounds (o + (p + 1) + 0) (vu8 (v % 256))).setIfInBounds (o + (p + 1) + 1) (vu8 (v / 256 % 256))).setIfInBounds (o + (p + 1) + 2) (vu8 (v / 65536 % 256))).setIfInBounds (o + (p + 1) + 3) (vu8 (v / 16777216 % 256))) = y := ⟨_, rfl⟩
          have hz2 : cs2.size = cs.size := by rw [← hcs2]; simp only [Array.size_setIfInBounds]; exact hz
          rw [hcs2] at hR2 g4 ⊢
          refine nC (JC.region ?_)
          refine oM ?_
          refine oM ?_
          first | refine JO.py (Py.add xe ev_const (w_u32 (by omega))) ?_ | refine JO.py (Py.add xe ev_const (m_u32 _)) ?_
          refine oM ?_
          refine oM ?_
          first | refine JO.py (Py.add xe ev_const (w_u32 (by omega))) ?_ | refine JO.py (Py.add xe ev_const (m_u32 _)) ?_
          refine JO.py (Py.idxS (j := p + 4) Tryz.underlying22 siz5 xe xe (by omega) (by omega) xmult) ?_
          refine JO.py (Py.load scal5 xe xpick xrow) ?_
          refine JO.py (Py.mask 1 2 xe ev_const (by decide) (by decide) (by decide) (r_u8 (by omega)) (w_u8 (by omega))) ?_
          refine JO.py (Py.to (Py.sub ev_const xe (m_u8 _)) (v' := vu8 (Bx.by4 v)) (vint (by unfold Bx.by4; split <;> omega))) ?_
          refine JO.py (Py.idxS (j := p + 4) Tryz.underlying22 siz5 xe xe (by omega) (by omega) xmult) ?_
          refine JO.store siz5 xe xe (by first | rfl | assumption) xpick xsize xnorm ?_
          refine JO.nil (JX.blockN ?_)
          refine JX.loop (p + 5, 0, out ++ [x0, Bx.by1 v, Bx.by2 v, Bx.by3 v, Bx.by4 v], cs2.setIfInBounds (o + (p + 4)) (vu8 (Bx.by4 v))) ⟨hD2, hR2, by dsimp only; rw [Array.size_setIfInBounds]; exact hz2⟩ (by dsimp only; omega) xag xpkE
      · skip
        refine JC.skip (JX.code (JC.seq (sR ?_)))
        refine oM ?_
        first | refine oD (Py.gtr xe ev_const) ?_ | refine oU (Py.gtr xe ev_const) ?_ | refine JO.py (Py.gtr xe ev_const) ?_
        refine nC ?_
        refine cF ?_
        refine sR ?_
        refine oM ?_
        refine oM ?_
        refine JO.py (Py.to (Py.shrN (p - pos) (a := m) xe xe (by omega) (by simp only [IntKind.bits]; omega)) (v' := .int .u32 (m1 : Nat)) (vint (by rw [hm1]))) ?_
        obtain rfl | rfl | rfl | rfl | hsk : m1 = 0 ∨ m1 = 1 ∨ m1 = 2 ∨ m1 = 4 ∨ (4 < m1 ∨ m1 = 3) := by omega
        · skip
          refine oA ?_
          refine nC (sR ?_)
          refine oM ?_
          first | refine oD (Py.neq xe ev_const) ?_ | refine oU (Py.neq xe ev_const) ?_ | refine JO.py (Py.neq xe ev_const) ?_
          refine oM ?_
          first | (refine gT ?_; (refine oM ?_)) | refine kF ?_ | refine JO.skipU rfl (Lk.ev (v := undef) xlk rfl) ?_
          first | (refine gT ?_; (first | refine oD (Py.gtr xe ev_const) ?_ | refine oU (Py.gtr xe ev_const) ?_ | refine JO.py (Py.gtr xe ev_const) ?_)) | refine kF ?_ | refine JO.skipU rfl (Lk.ev (v := undef) xlk rfl) ?_
          first | (refine gT ?_; (refine oM ?_)) | refine kF ?_ | refine JO.skipU rfl (Lk.ev (v := undef) xlk rfl) ?_
          first | (refine gF ?_; (refine oM ?_)) | refine kT ?_ | refine JO.skipU rfl (Lk.ev (v := undef) xlk rfl) ?_
          first | (refine gF ?_; (first | refine oD (Py.eql xe ev_const) ?_ | refine oU (Py.eql xe ev_const) ?_ | refine JO.py (Py.eql xe ev_const) ?_)) | refine kT ?_ | refine JO.skipU rfl (Lk.ev (v := undef) xlk rfl) ?_
          first | (refine gT ?_; (first | refine JO.py (Py.pickT xe ev_const) ?_ | refine JO.py (Py.pickF xe xe) ?_)) | refine kF ?_ | refine JO.skipU rfl (Lk.ev (v := undef) xlk rfl) ?_
          first | (refine gT ?_; (refine oM ?_)) | refine kF ?_ | refine JO.skipU rfl (Lk.ev (v := undef) xlk rfl) ?_
          first | (refine gF ?_; (refine oM ?_)) | refine kT ?_ | refine JO.skipU rfl (Lk.ev (v := undef) xlk rfl) ?_
          first | (refine gF ?_; (refine oM ?_)) | refine kT ?_ | refine JO.skipU rfl (Lk.ev (v := undef) xlk rfl) ?_
          first | (refine gF ?_; (refine oM ?_)) | refine kT ?_ | refine JO.skipU rfl (Lk.ev (v := undef) xlk rfl) ?_
          first | (refine gF ?_; (refine JO.py (Py.shr 1 2 xe ev_const rfl (by decide) (by decide) (by decide)) ?_)) | refine kT ?_ | refine JO.skipU rfl (Lk.ev (v := undef) xlk rfl) ?_
          first | (refine gF ?_; (first | refine JO.py (Py.add xe xe (w_u32 (by omega))) ?_ | refine JO.py (Py.add xe xe (m_u32 _)) ?_)) | refine kT ?_ | refine JO.skipU rfl (Lk.ev (v := undef) xlk rfl) ?_
          first | (refine gF ?_; (first | refine JO.py (Py.add xe ev_const (w_u32 (by omega))) ?_ | refine JO.py (Py.add xe ev_const (m_u32 _)) ?_)) | refine kT ?_ | refine JO.skipU rfl (Lk.ev (v := undef) xlk rfl) ?_
          first | (refine gF ?_; (refine JO.py (Py.idxS Tryz.underlying22 siz5 xe xe (by omega) xidx xmult) ?_)) | refine kT ?_ | refine JO.skipU rfl (Lk.ev (v := undef) xlk rfl) ?_
          first | (refine gF ?_; (refine JO.py (Py.load scal5 xe xpick xrow) ?_)) | refine kT ?_ | refine JO.skipU rfl (Lk.ev (v := undef) xlk rfl) ?_
          refine JO.skipU rfl (Lk.ev (v := undef) xlk rfl) ?_
          first | (refine gT ?_; (first | refine JO.py (Py.pickT xe ev_const) ?_ | refine JO.py (Py.pickF xe xe) ?_)) | refine kF ?_ | refine JO.skipU rfl (Lk.ev (v := undef) xlk rfl) ?_
          first | refine JO.py (Py.pickT xe xe) ?_ | refine JO.py (Py.pickF xe ev_const) ?_
          refine nC ?_
          refine cF ?_
          have hns : Bx.skip 0 x1 x2 x3 = false := rfl
          refine JC.skip (JX.code (sR ?_))
          refine oM ?_
          refine oM ?_
          first | refine JO.py (Py.add xe ev_const (w_u32 (by omega))) ?_ | refine JO.py (Py.add xe ev_const (m_u32 _)) ?_
          refine JO.py (Py.idxS (j := p + 4) Tryz.underlying22 siz5 xe xe (by omega) (by omega) xmult) ?_
          refine JO.py (Py.load scal5 xe xpick xrow) ?_
          refine JO.call (Evs.cons xe Evs.nil) (test86_con G x4 l4) xpkE ?_
          rintro _
          show JO _ _ _ _ _ _ _ ((106, _) :: _) _ (_ :: _)
          cases hf4 : Bx.far x4
          · skip
            refine nC ?_
            refine cF ?_
            refine sR ?_
            refine oM ?_
            refine JO.py (Py.shr 1 2 xe ev_const rfl (by decide) (by decide) (by decide)) ?_
            refine JO.py (Py.to (Py.orN xe ev_const (r_u32 (by omega)) (r_u32 (by omega)) (by decide)) (v' := .int .u32 (0 / 2 + 4 : Nat)) (vint (or_int (x := 0 / 2) (y := 4) (by omega) rfl (or_lo (k := 2) (a := 1) (by omega) rfl)))) ?_
            refine oA ?_
            refine nC (JC.region ?_)
            refine oM ?_
            first | refine JO.py (Py.add xe ev_const (w_u32 (by omega))) ?_ | refine JO.py (Py.add xe ev_const (m_u32 _)) ?_
            refine oA ?_
            refine JO.nil (JX.blockN ?_)
            refine JX.loop (p + 1, 0 / 2 + 4, out ++ [x0], cs') ⟨by dsimp only; rw [← e0]; exact hD.left h5 (by rw [e0]; exact hop) (by rw [e1, e2, e3, e4]; exact .inr hf4), by dsimp only; rw [← e0, Bx.cat_next (by omega)]; exact hR, hz⟩ (by dsimp only; omega) xag xpkE
          · skip
            refine nC ?_
            refine cT ?_
            refine sR ?_
            refine oM ?_
            refine oM ?_
            first | refine JO.py (Py.add xe ev_const (w_u32 (by omega))) ?_ | refine JO.py (Py.add xe ev_const (m_u32 _)) ?_
            refine JO.py (Py.slc (l := p + 1) (h := l) (p := o + (p + 1)) (q := l - (p + 1)) (c := c - (p + 1)) Tryz.underlying22 siz5 xe (Bd.some xe (by omega)) Bd.none (by omega) (by omega) (by omega) (by omega) (by omega) (by omega)) ?_
            refine JO.call (Evs.cons xe Evs.nil) (le32_con G b (o + (p + 1)) (l - (p + 1)) (c - (p + 1)) 5 (0, 0) cs' x1 x2 x3 x4 (by omega) k1 k2 k3 k4) xpkE ?_
            rintro _
            show JO _ _ _ _ _ _ _ ((111, _) :: _) _ (_ :: _ :: _)
            have hwl := le32_lt l1 l2 l3 l4
            obtain ⟨w, hw⟩ : ∃ w, Bx.le x1 x2 x3 x4 = w := ⟨_, rfl⟩
            rw [hw] at hwl ⊢
            refine oA ?_
            refine nC (JC.seq ?_)
            refine JC.regionM [(0, true), (1, true), (2, true), (3, true), (4, true), (8, true), (5, false), (6, true), (7, true), (9, true), (10, true)] mixed (by kernel_rfl) ?_
            refine JM.py ao ⟨fun _ => Py.move xe⟩ ?_
            refine JM.py ao ⟨fun _ => Py.nil xe⟩ ?_
            refine JM.py ao ⟨fun _ => Py.fld fld123_0 xe xoff⟩ ?_
            refine JM.ld ao scal45 xe xpick xrow ?_
            refine JM.py ao ⟨fun _ => Py.move xe⟩ ?_
            refine JM.py ao ⟨fun _ => Py.move xe⟩ ?_
            refine JM.eff ao ?_
            refine JO.call (Evs.cons xe Evs.nil) (size5_con G (.pointer (some ⟨cb, 0, none⟩)) (cel cb 123 #[.int .u32 (ip : Nat), .int .u32 (mk : Nat)])) xpkE ?_
            rintro _
            show JO _ _ _ _ _ _ _ ((117, _) :: _) _ (_ :: _ :: _)
            refine JO.nil ?_
            refine JX.mix (Kept.keep (fun _ hw => hw.cell xpick xrow) Kept.nil) ?_
            first | refine JM.py ao ⟨fun _ => Py.conv cnv3_45 xe (w_u32 (by omega))⟩ ?_ | refine JM.py ao ⟨fun _ => Py.conv cnv3_45 xe (m_u32 _)⟩ ?_
            first | refine JM.py ao ⟨fun _ => Py.add xe xe (w_u32 (by omega))⟩ ?_ | refine JM.py ao ⟨fun _ => Py.add xe xe (m_u32 _)⟩ ?_
            first | refine JM.py ao ⟨fun _ => Py.add xe xe (w_u32 (by omega))⟩ ?_ | refine JM.py ao ⟨fun _ => Py.add xe xe (m_u32 _)⟩ ?_
            refine JM.py ao ⟨fun _ => Py.assign xe⟩ ?_
            refine JM.nil (JX.code (sR ?_))
            refine oM ?_
            refine oM ?_
            refine JO.call (Evs.cons xe Evs.nil) (size5_con G (.pointer (some ⟨cb, 0, none⟩)) (cel cb 123 #[.int .u32 (ip : Nat), .int .u32 (mk : Nat)])) xpkE ?_
            rintro _
            show JO _ _ _ _ _ _ _ ((124, _) :: _) _ (_ :: _ :: _)
            first | refine JO.py (Py.conv cnv3_45 xe (w_u32 (by omega))) ?_ | refine JO.py (Py.conv cnv3_45 xe (m_u32 _)) ?_
            first | refine JO.py (Py.add xe xe (w_u32 (by omega))) ?_ | refine JO.py (Py.add xe xe (m_u32 _)) ?_
            refine oA ?_
            refine nC (JC.seq (sR ?_))
            refine oM ?_
            refine nC ?_
            refine cF ?_
            obtain ⟨v, hv⟩ : ∃ v, (w + (4294967296 - (ip + p + 5) % 4294967296)) % 4294967296 = v := ⟨_, rfl⟩
            have hvl : v < 4294967296 := by omega
            refine JC.region ?_
            refine oM ?_
            refine oM ?_
            refine JO.py (Py.to (Py.sub xe xe (m_u32 _)) (v' := .int .u32 (v : Nat)) (vint (by omega))) ?_
            refine oA ?_
            refine nC (JC.seq (sR ?_))
            refine oM ?_
            first | refine oD (Py.neq xe ev_const) ?_ | refine oU (Py.neq xe ev_const) ?_ | refine JO.py (Py.neq xe ev_const) ?_
            refine nC ?_
            refine cF ?_
            refine JC.skip (JX.code (sR ?_))
            refine oM ?_
            refine oM ?_
            first | refine JO.py (Py.add xe ev_const (w_u32 (by omega))) ?_ | refine JO.py (Py.add xe ev_const (m_u32 _)) ?_
            refine JO.py (Py.slc (l := p + 1) (h := l) (p := o + (p + 1)) (q := l - (p + 1)) (c := c - (p + 1)) Tryz.underlying22 siz5 xe (Bd.some xe (by omega)) Bd.none (by omega) (by omega) (by omega) (by omega) (by omega) (by omega)) ?_
            refine oM ?_
            refine JO.call (Evs.cons xe (Evs.cons xe Evs.nil)) (putLE_con G b (o + (p + 1)) (l - (p + 1)) (c - (p + 1)) cs' (vu8 x4) v _ _ _ _ (by omega) (by omega) k4.1 (by omega) rfl rfl rfl rfl) xpkE ?_
            rintro _
            show JO _ _ _ _ _ _ _ ((161, _) :: _) _ (_ :: _ :: _)
            have g4 := put5_get (cs := cs') (o := o) (p := p) (v1 := vu8 (v / 1 % 256)) (v2 := vu8 (v / 256 % 256)) (v3 := vu8 (v / 65536 % 256)) (v4 := vu8 (v / 16777216 % 256)) (by omega)
            have hR2 := put5_ok (y1 := v / 1 % 256) (y2 := v / 256 % 256) (y3 := v / 65536 % 256) (z := v / 16777216 % 256) (y4 := Bx.by4 v) hR hlen h5 (by omega) e0 (by omega) (by omega) (by omega) (by omega) (by unfold Bx.by4; split <;> omega)
            have hD2 := hD.conv (v := v) h5 (by rw [e0]; exact hop) (by rw [e1, e2, e3]; exact hns) (by rw [e4]; exact hf4) (by rw [e1, e2, e3, e4, hw]; exact hv)
            rw [e0] at hD2
            rw [Nat.div_one v] at hR2 g4 ⊢
            obtain ⟨cs2, hcs2⟩ : ∃ y, ((((cs'.setIfInBounds (o + (p + 1) + 0) (vu8 (v % 256))).setIfInBounds (o + (p + 1) + 1) (vu8 (v / 256 % 256))).setIfInBounds (o + (p + 1) + 2) (vu8 (v / 65536 % 256))).setIfInBounds (o + (p + 1) + 3) (vu8 (v / 16777216 % 256))) = y := ⟨_, rfl⟩
            have hz2 : cs2.size = cs.size := by rw [← hcs2]; simp only [Array.size_setIfInBounds]; exact hz
            rw [hcs2] at hR2 g4 ⊢
            refine nC (JC.region ?_)
            refine oM ?_
            refine oM ?_
            first | refine JO.py (Py.add xe ev_const (w_u32 (by omega))) ?_ | refine JO.py (Py.add xe ev_const (m_u32 _)) ?_
            refine oM ?_
            refine oM ?_
            first | refine JO.py (Py.add xe ev_const (w_u32 (by omega))) ?_ | refine JO.py (Py.add xe ev_const (m_u32 _)) ?_
            refine JO.py (Py.idxS (j := p + 4) Tryz.underlying22 siz5 xe xe (by omega) (by omega) xmult) ?_
            refine JO.py (Py.load scal5 xe xpick xrow) ?_
            refine JO.py (Py.mask 1 2 xe ev_const (by decide) (by decide) (by decide) (r_u8 (by omega)) (w_u8 (by omega))) ?_
            refine JO.py (Py.to (Py.sub ev_const xe (m_u8 _)) (v' := vu8 (Bx.by4 v)) (vint (by unfold Bx.by4; split <;> omega))) ?_
            refine JO.py (Py.idxS (j := p + 4) Tryz.underlying22 siz5 xe xe (by omega) (by omega) xmult) ?_
            refine JO.store siz5 xe xe (by first | rfl | assumption) xpick xsize xnorm ?_
            refine JO.nil (JX.blockN ?_)
            refine JX.loop (p + 5, 0, out ++ [x0, Bx.by1 v, Bx.by2 v, Bx.by3 v, Bx.by4 v], cs2.setIfInBounds (o + (p + 4)) (vu8 (Bx.by4 v))) ⟨hD2, hR2, by dsimp only; rw [Array.size_setIfInBounds]; exact hz2⟩ (by dsimp only; omega) xag xpkE
        · skip
          refine oA ?_
          refine nC (sR ?_)
          refine oM ?_
          first | refine oD (Py.neq xe ev_const) ?_ | refine oU (Py.neq xe ev_const) ?_ | refine JO.py (Py.neq xe ev_const) ?_
          refine oM ?_
          first | (refine gT ?_; (refine oM ?_)) | refine kF ?_ | refine JO.skipU rfl (Lk.ev (v := undef) xlk rfl) ?_
          first | (refine gT ?_; (first | refine oD (Py.gtr xe ev_const) ?_ | refine oU (Py.gtr xe ev_const) ?_ | refine JO.py (Py.gtr xe ev_const) ?_)) | refine kF ?_ | refine JO.skipU rfl (Lk.ev (v := undef) xlk rfl) ?_
          first | (refine gT ?_; (refine oM ?_)) | refine kF ?_ | refine JO.skipU rfl (Lk.ev (v := undef) xlk rfl) ?_
          first | (refine gF ?_; (refine oM ?_)) | refine kT ?_ | refine JO.skipU rfl (Lk.ev (v := undef) xlk rfl) ?_
          first | (refine gF ?_; (first | refine oD (Py.eql xe ev_const) ?_ | refine oU (Py.eql xe ev_const) ?_ | refine JO.py (Py.eql xe ev_const) ?_)) | refine kT ?_ | refine JO.skipU rfl (Lk.ev (v := undef) xlk rfl) ?_
          first | (refine gT ?_; (first | refine JO.py (Py.pickT xe ev_const) ?_ | refine JO.py (Py.pickF xe xe) ?_)) | refine kF ?_ | refine JO.skipU rfl (Lk.ev (v := undef) xlk rfl) ?_
          first | (refine gT ?_; (refine oM ?_)) | refine kF ?_ | refine JO.skipU rfl (Lk.ev (v := undef) xlk rfl) ?_
          first | (refine gF ?_; (refine oM ?_)) | refine kT ?_ | refine JO.skipU rfl (Lk.ev (v := undef) xlk rfl) ?_
          first | (refine gF ?_; (refine oM ?_)) | refine kT ?_ | refine JO.skipU rfl (Lk.ev (v := undef) xlk rfl) ?_
          first | (refine gF ?_; (refine oM ?_)) | refine kT ?_ | refine JO.skipU rfl (Lk.ev (v := undef) xlk rfl) ?_
          first | (refine gF ?_; (refine JO.py (Py.shr 1 2 xe ev_const rfl (by decide) (by decide) (by decide)) ?_)) | refine kT ?_ | refine JO.skipU rfl (Lk.ev (v := undef) xlk rfl) ?_
          first | (refine gF ?_; (first | refine JO.py (Py.add xe xe (w_u32 (by omega))) ?_ | refine JO.py (Py.add xe xe (m_u32 _)) ?_)) | refine kT ?_ | refine JO.skipU rfl (Lk.ev (v := undef) xlk rfl) ?_
          first | (refine gF ?_; (first | refine JO.py (Py.add xe ev_const (w_u32 (by omega))) ?_ | refine JO.py (Py.add xe ev_const (m_u32 _)) ?_)) | refine kT ?_ | refine JO.skipU rfl (Lk.ev (v := undef) xlk rfl) ?_
          refine gF ?_
          refine JO.py (Py.idxS (j := p + 1) Tryz.underlying22 siz5 xe xe (by omega) (by omega) xmult) ?_
          first | (refine gF ?_; (refine JO.py (Py.load scal5 xe xpick xrow) ?_)) | refine kT ?_ | refine JO.skipU rfl (Lk.ev (v := undef) xlk rfl) ?_
          refine gF ?_
          refine JO.call (Evs.cons xe Evs.nil) (test86_con G x1 l1) xpkE ?_
          rintro _
          show JO _ _ _ _ _ _ _ ((93, _) :: _) _ (_ :: _)
          cases hlk : Bx.far x1
          · skip
            first | (refine gT ?_; (first | refine JO.py (Py.pickT xe ev_const) ?_ | refine JO.py (Py.pickF xe xe) ?_)) | refine kF ?_ | refine JO.skipU rfl (Lk.ev (v := undef) xlk rfl) ?_
            first | refine JO.py (Py.pickT xe xe) ?_ | refine JO.py (Py.pickF xe ev_const) ?_
            refine nC ?_
            refine cF ?_
            have hns : Bx.skip 1 x1 x2 x3 = false := by unfold Bx.skip Bx.look; simpa using hlk
            refine JC.skip (JX.code (sR ?_))
            refine oM ?_
            refine oM ?_
            first | refine JO.py (Py.add xe ev_const (w_u32 (by omega))) ?_ | refine JO.py (Py.add xe ev_const (m_u32 _)) ?_
            refine JO.py (Py.idxS (j := p + 4) Tryz.underlying22 siz5 xe xe (by omega) (by omega) xmult) ?_
            refine JO.py (Py.load scal5 xe xpick xrow) ?_
            refine JO.call (Evs.cons xe Evs.nil) (test86_con G x4 l4) xpkE ?_
            rintro _
            show JO _ _ _ _ _ _ _ ((106, _) :: _) _ (_ :: _)
            cases hf4 : Bx.far x4
            · skip
              refine nC ?_
              refine cF ?_
              refine sR ?_
              refine oM ?_
              refine JO.py (Py.shr 1 2 xe ev_const rfl (by decide) (by decide) (by decide)) ?_
              refine JO.py (Py.to (Py.orN xe ev_const (r_u32 (by omega)) (r_u32 (by omega)) (by decide)) (v' := .int .u32 (1 / 2 + 4 : Nat)) (vint (or_int (x := 1 / 2) (y := 4) (by omega) rfl (or_lo (k := 2) (a := 1) (by omega) rfl)))) ?_
              refine oA ?_
              refine nC (JC.region ?_)
              refine oM ?_
              first | refine JO.py (Py.add xe ev_const (w_u32 (by omega))) ?_ | refine JO.py (Py.add xe ev_const (m_u32 _)) ?_
              refine oA ?_
              refine JO.nil (JX.blockN ?_)
              refine JX.loop (p + 1, 1 / 2 + 4, out ++ [x0], cs') ⟨by dsimp only; rw [← e0]; exact hD.left h5 (by rw [e0]; exact hop) (by rw [e1, e2, e3, e4]; exact .inr hf4), by dsimp only; rw [← e0, Bx.cat_next (by omega)]; exact hR, hz⟩ (by dsimp only; omega) xag xpkE
            · skip
              refine nC ?_
              refine cT ?_
              refine sR ?_
              refine oM ?_
              refine oM ?_
              first | refine JO.py (Py.add xe ev_const (w_u32 (by omega))) ?_ | refine JO.py (Py.add xe ev_const (m_u32 _)) ?_
              refine JO.py (Py.slc (l := p + 1) (h := l) (p := o + (p + 1)) (q := l - (p + 1)) (c := c - (p + 1)) Tryz.underlying22 siz5 xe (Bd.some xe (by omega)) Bd.none (by omega) (by omega) (by omega) (by omega) (by omega) (by omega)) ?_
              refine JO.call (Evs.cons xe Evs.nil) (le32_con G b (o + (p + 1)) (l - (p + 1)) (c - (p + 1)) 5 (0, 0) cs' x1 x2 x3 x4 (by omega) k1 k2 k3 k4) xpkE ?_
              rintro _
              show JO _ _ _ _ _ _ _ ((111, _) :: _) _ (_ :: _ :: _)
              have hwl := le32_lt l1 l2 l3 l4
              obtain ⟨w, hw⟩ : ∃ w, Bx.le x1 x2 x3 x4 = w := ⟨_, rfl⟩
              rw [hw] at hwl ⊢
              refine oA ?_
              refine nC (JC.seq ?_)
              refine JC.regionM [(0, true), (1, true), (2, true), (3, true), (4, true), (8, true), (5, false), (6, true), (7, true), (9, true), (10, true)] mixed (by kernel_rfl) ?_
              refine JM.py ao ⟨fun _ => Py.move xe⟩ ?_
              refine JM.py ao ⟨fun _ => Py.nil xe⟩ ?_
              refine JM.py ao ⟨fun _ => Py.fld fld123_0 xe xoff⟩ ?_
              refine JM.ld ao scal45 xe xpick xrow ?_
              refine JM.py ao ⟨fun _ => Py.move xe⟩ ?_
              refine JM.py ao ⟨fun _ => Py.move xe⟩ ?_
              refine JM.eff ao ?_
              refine JO.call (Evs.cons xe Evs.nil) (size5_con G (.pointer (some ⟨cb, 0, none⟩)) (cel cb 123 #[.int .u32 (ip : Nat), .int .u32 (mk : Nat)])) xpkE ?_
              rintro _
              show JO _ _ _ _ _ _ _ ((117, _) :: _) _ (_ :: _ :: _)
              refine JO.nil ?_
              refine JX.mix (Kept.keep (fun _ hw => hw.cell xpick xrow) Kept.nil) ?_
              first | refine JM.py ao ⟨fun _ => Py.conv cnv3_45 xe (w_u32 (by omega))⟩ ?_ | refine JM.py ao ⟨fun _ => Py.conv cnv3_45 xe (m_u32 _)⟩ ?_
              first | refine JM.py ao ⟨fun _ => Py.add xe xe (w_u32 (by omega))⟩ ?_ | refine JM.py ao ⟨fun _ => Py.add xe xe (m_u32 _)⟩ ?_
              first | refine JM.py ao ⟨fun _ => Py.add xe xe (w_u32 (by omega))⟩ ?_ | refine JM.py ao ⟨fun _ => Py.add xe xe (m_u32 _)⟩ ?_
              refine JM.py ao ⟨fun _ => Py.assign xe⟩ ?_
              refine JM.nil (JX.code (sR ?_))
              refine oM ?_
              refine oM ?_
              refine JO.call (Evs.cons xe Evs.nil) (size5_con G (.pointer (some ⟨cb, 0, none⟩)) (cel cb 123 #[.int .u32 (ip : Nat), .int .u32 (mk : Nat)])) xpkE ?_
              rintro _
              show JO _ _ _ _ _ _ _ ((124, _) :: _) _ (_ :: _ :: _)
              first | refine JO.py (Py.conv cnv3_45 xe (w_u32 (by omega))) ?_ | refine JO.py (Py.conv cnv3_45 xe (m_u32 _)) ?_
              first | refine JO.py (Py.add xe xe (w_u32 (by omega))) ?_ | refine JO.py (Py.add xe xe (m_u32 _)) ?_
              refine oA ?_
              refine nC (JC.seq (sR ?_))
              refine oM ?_
              refine nC ?_
              refine cF ?_
              obtain ⟨v, hv⟩ : ∃ v, (w + (4294967296 - (ip + p + 5) % 4294967296)) % 4294967296 = v := ⟨_, rfl⟩
              have hvl : v < 4294967296 := by omega
              refine JC.region ?_
              refine oM ?_
              refine oM ?_
              refine JO.py (Py.to (Py.sub xe xe (m_u32 _)) (v' := .int .u32 (v : Nat)) (vint (by omega))) ?_
              refine oA ?_
              refine nC (JC.seq (sR ?_))
              refine oM ?_
              first | refine oD (Py.neq xe ev_const) ?_ | refine oU (Py.neq xe ev_const) ?_ | refine JO.py (Py.neq xe ev_const) ?_
              refine nC ?_
              refine cT ?_
              refine sR ?_
              refine oM ?_
              refine JO.py (Py.to (Py.andN xe ev_const (r_u32 (by omega)) (r_u32 (by omega)) (by decide)) (v' := .int .u32 0) (vint (by rfl))) ?_
              first | refine JO.py (Py.shl 2 4 xe ev_const rfl (by decide) (by decide) (w_u32 (by omega))) ?_ | refine JO.py (Py.shl 2 4 xe ev_const rfl (by decide) (by decide) (m_u32 _)) ?_
              refine oA ?_
              refine nC (JC.seq (sR ?_))
              refine oM ?_
              refine oM ?_
              refine JO.py (Py.shrN 0 (a := v) xe xe (by omega) (by decide)) ?_
              refine JO.py (Py.to (Py.conv cnv45_5 xe (m_u8 _)) (v' := vu8 (v % 256)) (vint (by omega))) ?_
              refine JO.call (Evs.cons xe Evs.nil) (test86_con G (v % 256) (by omega)) xpkE ?_
              rintro _
              show JO _ _ _ _ _ _ _ ((143, _) :: _) _ (_ :: _)
              cases hff : Bx.far (v % 256)
              · skip
                refine nC ?_
                refine cF ?_
                refine JC.skip (JX.code (JC.region ?_))
                refine oC ?_
                refine nC (sR ?_)
                refine oM ?_
                refine oM ?_
                first | refine JO.py (Py.add xe ev_const (w_u32 (by omega))) ?_ | refine JO.py (Py.add xe ev_const (m_u32 _)) ?_
                refine JO.py (Py.slc (l := p + 1) (h := l) (p := o + (p + 1)) (q := l - (p + 1)) (c := c - (p + 1)) Tryz.underlying22 siz5 xe (Bd.some xe (by omega)) Bd.none (by omega) (by omega) (by omega) (by omega) (by omega) (by omega)) ?_
                refine oM ?_
                refine JO.call (Evs.cons xe (Evs.cons xe Evs.nil)) (putLE_con G b (o + (p + 1)) (l - (p + 1)) (c - (p + 1)) cs' (vu8 x4) v _ _ _ _ (by omega) (by omega) k4.1 (by omega) rfl rfl rfl rfl) xpkE ?_
                rintro _
                show JO _ _ _ _ _ _ _ ((161, _) :: _) _ (_ :: _ :: _)
                have g4 := put5_get (cs := cs') (o := o) (p := p) (v1 := vu8 (v / 1 % 256)) (v2 := vu8 (v / 256 % 256)) (v3 := vu8 (v / 65536 % 256)) (v4 := vu8 (v / 16777216 % 256)) (by omega)
                have hR2 := put5_ok (y1 := v / 1 % 256) (y2 := v / 256 % 256) (y3 := v / 65536 % 256) (z := v / 16777216 % 256) (y4 := Bx.by4 v) hR hlen h5 (by omega) e0 (by omega) (by omega) (by omega) (by omega) (by unfold Bx.by4; split <;> omega)
                have hD2 := hD.conv (v := v) h5 (by rw [e0]; exact hop) (by rw [e1, e2, e3]; exact hns) (by rw [e4]; exact hf4) (by rw [e1, e2, e3, e4, hw]; exact (Bx.dec1_3.trans (by rw [hv, if_neg (by rw [hff]; decide)])))
                rw [e0] at hD2
                rw [Nat.div_one v] at hR2 g4 ⊢
                obtain ⟨cs2, hcs2⟩ : ∃ y, ((((cs'.setIfInBounds (o + (p + 1) + 0) (vu8 (v % 256))).setIfInBounds (o + (p + 1) + 1) (vu8 (v / 256 % 256))).setIfInBounds (o + (p + 1) + 2) (vu8 (v / 65536 % 256))).setIfInBounds (o + (p + 1) + 3) (vu8 (v / 16777216 % 256))) = y := ⟨_, rfl⟩
                have hz2 : cs2.size = cs.size := by rw [← hcs2]; simp only [Array.size_setIfInBounds]; exact hz
                rw [hcs2] at hR2 g4 ⊢
                refine nC (JC.region ?_)
                refine oM ?_
                refine oM ?_
                first | refine JO.py (Py.add xe ev_const (w_u32 (by omega))) ?_ | refine JO.py (Py.add xe ev_const (m_u32 _)) ?_
                refine oM ?_
                refine oM ?_
                first | refine JO.py (Py.add xe ev_const (w_u32 (by omega))) ?_ | refine JO.py (Py.add xe ev_const (m_u32 _)) ?_
                refine JO.py (Py.idxS (j := p + 4) Tryz.underlying22 siz5 xe xe (by omega) (by omega) xmult) ?_
                refine JO.py (Py.load scal5 xe xpick xrow) ?_
                refine JO.py (Py.mask 1 2 xe ev_const (by decide) (by decide) (by decide) (r_u8 (by omega)) (w_u8 (by omega))) ?_
                refine JO.py (Py.to (Py.sub ev_const xe (m_u8 _)) (v' := vu8 (Bx.by4 v)) (vint (by unfold Bx.by4; split <;> omega))) ?_
                refine JO.py (Py.idxS (j := p + 4) Tryz.underlying22 siz5 xe xe (by omega) (by omega) xmult) ?_
                refine JO.store siz5 xe xe (by first | rfl | assumption) xpick xsize xnorm ?_
                refine JO.nil (JX.blockN ?_)
                refine JX.loop (p + 5, 0, out ++ [x0, Bx.by1 v, Bx.by2 v, Bx.by3 v, Bx.by4 v], cs2.setIfInBounds (o + (p + 4)) (vu8 (Bx.by4 v))) ⟨hD2, hR2, by dsimp only; rw [Array.size_setIfInBounds]; exact hz2⟩ (by dsimp only; omega) xag xpkE
              · skip
                refine nC ?_
                refine cT ?_
                obtain ⟨f, hfx⟩ : ∃ f, v ^^^ 255 = f := ⟨_, rfl⟩
                have hfl : Bx.fl 256 v = f := by rw [← hfx]; exact (Bx.fl_xor 8 v).symm
                have hfb : f < 4294967296 := by rw [← hfx]; exact Nat.xor_lt_two_pow (n := 32) hvl (by decide)
                obtain ⟨v2, hv2⟩ : ∃ y, (f + (4294967296 - (ip + p + 5) % 4294967296)) % 4294967296 = y := ⟨_, rfl⟩
                have hv2l : v2 < 4294967296 := by omega
                refine sR ?_
                refine oM ?_
                refine oM ?_
                refine JO.py (Py.to (Py.shlN 0 ev_const xe (by omega) (by decide) (w_u32 (by decide))) (v' := .int .u32 256) (vint (by decide))) ?_
                first | refine JO.py (Py.sub xe ev_const (w_u32 (by omega))) ?_ | refine JO.py (Py.sub xe ev_const (m_u32 _)) ?_
                refine JO.py (Py.to (Py.xorN xe xe (r_u32 (by omega)) (r_u32 (by omega)) (by decide)) (v' := .int .u32 (f : Nat)) (vint (by rw [← hfx]; rfl))) ?_
                refine oA ?_
                refine nC (sR ?_)
                refine oM ?_
                refine nC ?_
                refine cF ?_
                refine JC.region ?_
                refine oM ?_
                refine oM ?_
                refine JO.py (Py.to (Py.sub xe xe (m_u32 _)) (v' := .int .u32 (v2 : Nat)) (vint (by omega))) ?_
                refine oA ?_
                refine nC (JC.region ?_)
                refine oC ?_
                refine nC (sR ?_)
                refine oM ?_
                refine oM ?_
                first | refine JO.py (Py.add xe ev_const (w_u32 (by omega))) ?_ | refine JO.py (Py.add xe ev_const (m_u32 _)) ?_
                refine JO.py (Py.slc (l := p + 1) (h := l) (p := o + (p + 1)) (q := l - (p + 1)) (c := c - (p + 1)) Tryz.underlying22 siz5 xe (Bd.some xe (by omega)) Bd.none (by omega) (by omega) (by omega) (by omega) (by omega) (by omega)) ?_
                refine oM ?_
                refine JO.call (Evs.cons xe (Evs.cons xe Evs.nil)) (putLE_con G b (o + (p + 1)) (l - (p + 1)) (c - (p + 1)) cs' (vu8 x4) v2 _ _ _ _ (by omega) (by omega) k4.1 (by omega) rfl rfl rfl rfl) xpkE ?_
                rintro _
                show JO _ _ _ _ _ _ _ ((161, _) :: _) _ (_ :: _ :: _)
                have g4 := put5_get (cs := cs') (o := o) (p := p) (v1 := vu8 (v2 / 1 % 256)) (v2 := vu8 (v2 / 256 % 256)) (v3 := vu8 (v2 / 65536 % 256)) (v4 := vu8 (v2 / 16777216 % 256)) (by omega)
                have hR2 := put5_ok (y1 := v2 / 1 % 256) (y2 := v2 / 256 % 256) (y3 := v2 / 65536 % 256) (z := v2 / 16777216 % 256) (y4 := Bx.by4 v2) hR hlen h5 (by omega) e0 (by omega) (by omega) (by omega) (by omega) (by unfold Bx.by4; split <;> omega)
                have hD2 := hD.conv (v := v2) h5 (by rw [e0]; exact hop) (by rw [e1, e2, e3]; exact hns) (by rw [e4]; exact hf4) (by rw [e1, e2, e3, e4, hw]; exact (Bx.dec1_3.trans (by rw [hv, if_pos hff, hfl]; exact hv2)))
                rw [e0] at hD2
                rw [Nat.div_one v2] at hR2 g4 ⊢
                obtain ⟨cs2, hcs2⟩ : ∃ y, ((((cs'.setIfInBounds (o + (p + 1) + 0) (vu8 (v2 % 256))).setIfInBounds (o + (p + 1) + 1) (vu8 (v2 / 256 % 256))).setIfInBounds (o + (p + 1) + 2) (vu8 (v2 / 65536 % 256))).setIfInBounds (o + (p + 1) + 3) (vu8 (v2 / 16777216 % 256))) = y := ⟨_, rfl⟩
                have hz2 : cs2.size = cs.size := by rw [← hcs2]; simp only [Array.size_setIfInBounds]; exact hz
                rw [hcs2] at hR2 g4 ⊢
                refine nC (JC.region ?_)
                refine oM ?_
                refine oM ?_
                first | refine JO.py (Py.add xe ev_const (w_u32 (by omega))) ?_ | refine JO.py (Py.add xe ev_const (m_u32 _)) ?_
                refine oM ?_
                refine oM ?_
                first | refine JO.py (Py.add xe ev_const (w_u32 (by omega))) ?_ | refine JO.py (Py.add xe ev_const (m_u32 _)) ?_
                refine JO.py (Py.idxS (j := p + 4) Tryz.underlying22 siz5 xe xe (by omega) (by omega) xmult) ?_
                refine JO.py (Py.load scal5 xe xpick xrow) ?_
                refine JO.py (Py.mask 1 2 xe ev_const (by decide) (by decide) (by decide) (r_u8 (by omega)) (w_u8 (by omega))) ?_
                refine JO.py (Py.to (Py.sub ev_const xe (m_u8 _)) (v' := vu8 (Bx.by4 v2)) (vint (by unfold Bx.by4; split <;> omega))) ?_
                refine JO.py (Py.idxS (j := p + 4) Tryz.underlying22 siz5 xe xe (by omega) (by omega) xmult) ?_
                refine JO.store siz5 xe xe (by first | rfl | assumption) xpick xsize xnorm ?_
                refine JO.nil (JX.blockN ?_)
                refine JX.loop (p + 5, 0, out ++ [x0, Bx.by1 v2, Bx.by2 v2, Bx.by3 v2, Bx.by4 v2], cs2.setIfInBounds (o + (p + 4)) (vu8 (Bx.by4 v2))) ⟨hD2, hR2, by dsimp only; rw [Array.size_setIfInBounds]; exact hz2⟩ (by dsimp only; omega) xag xpkE
          · skip
            first | (refine gT ?_; (first | refine JO.py (Py.pickT xe ev_const) ?_ | refine JO.py (Py.pickF xe xe) ?_)) | refine kF ?_ | refine JO.skipU rfl (Lk.ev (v := undef) xlk rfl) ?_
            first | refine JO.py (Py.pickT xe xe) ?_ | refine JO.py (Py.pickF xe ev_const) ?_
            refine nC ?_
            refine cT ?_
            refine sR ?_
            refine oM ?_
            refine JO.py (Py.shr 1 2 xe ev_const rfl (by decide) (by decide) (by decide)) ?_
            refine JO.py (Py.to (Py.orN xe ev_const (r_u32 (by omega)) (r_u32 (by omega)) (by decide)) (v' := .int .u32 (1 / 2 + 4 : Nat)) (vint (or_int (x := 1 / 2) (y := 4) (by omega) rfl (or_lo (k := 2) (a := 1) (by omega) rfl)))) ?_
            refine oA ?_
            refine nC (sR ?_)
            refine oM ?_
            first | refine JO.py (Py.add xe ev_const (w_u32 (by omega))) ?_ | refine JO.py (Py.add xe ev_const (m_u32 _)) ?_
            refine oA ?_
            refine nC (JC.exit (JX.exit (JX.blockE ?_)))
            refine JX.loop (p + 1, 1 / 2 + 4, out ++ [x0], cs') ⟨by dsimp only; rw [← e0]; exact hD.left h5 (by rw [e0]; exact hop) (by rw [e1, e2, e3, e4]; exact .inl (by unfold Bx.skip Bx.look; simpa using hlk)), by dsimp only; rw [← e0, Bx.cat_next (by omega)]; exact hR, hz⟩ (by dsimp only; omega) xag xpkE
        · skip
          refine oA ?_
          refine nC (sR ?_)
          refine oM ?_
          first | refine oD (Py.neq xe ev_const) ?_ | refine oU (Py.neq xe ev_const) ?_ | refine JO.py (Py.neq xe ev_const) ?_
          refine oM ?_
          first | (refine gT ?_; (refine oM ?_)) | refine kF ?_ | refine JO.skipU rfl (Lk.ev (v := undef) xlk rfl) ?_
          first | (refine gT ?_; (first | refine oD (Py.gtr xe ev_const) ?_ | refine oU (Py.gtr xe ev_const) ?_ | refine JO.py (Py.gtr xe ev_const) ?_)) | refine kF ?_ | refine JO.skipU rfl (Lk.ev (v := undef) xlk rfl) ?_
          first | (refine gT ?_; (refine oM ?_)) | refine kF ?_ | refine JO.skipU rfl (Lk.ev (v := undef) xlk rfl) ?_
          first | (refine gF ?_; (refine oM ?_)) | refine kT ?_ | refine JO.skipU rfl (Lk.ev (v := undef) xlk rfl) ?_
          first | (refine gF ?_; (first | refine oD (Py.eql xe ev_const) ?_ | refine oU (Py.eql xe ev_const) ?_ | refine JO.py (Py.eql xe ev_const) ?_)) | refine kT ?_ | refine JO.skipU rfl (Lk.ev (v := undef) xlk rfl) ?_
          first | (refine gT ?_; (first | refine JO.py (Py.pickT xe ev_const) ?_ | refine JO.py (Py.pickF xe xe) ?_)) | refine kF ?_ | refine JO.skipU rfl (Lk.ev (v := undef) xlk rfl) ?_
          first | (refine gT ?_; (refine oM ?_)) | refine kF ?_ | refine JO.skipU rfl (Lk.ev (v := undef) xlk rfl) ?_
          first | (refine gF ?_; (refine oM ?_)) | refine kT ?_ | refine JO.skipU rfl (Lk.ev (v := undef) xlk rfl) ?_
          first | (refine gF ?_; (refine oM ?_)) | refine kT ?_ | refine JO.skipU rfl (Lk.ev (v := undef) xlk rfl) ?_
          first | (refine gF ?_; (refine oM ?_)) | refine kT ?_ | refine JO.skipU rfl (Lk.ev (v := undef) xlk rfl) ?_
          first | (refine gF ?_; (refine JO.py (Py.shr 1 2 xe ev_const rfl (by decide) (by decide) (by decide)) ?_)) | refine kT ?_ | refine JO.skipU rfl (Lk.ev (v := undef) xlk rfl) ?_
          first | (refine gF ?_; (first | refine JO.py (Py.add xe xe (w_u32 (by omega))) ?_ | refine JO.py (Py.add xe xe (m_u32 _)) ?_)) | refine kT ?_ | refine JO.skipU rfl (Lk.ev (v := undef) xlk rfl) ?_
          first | (refine gF ?_; (first | refine JO.py (Py.add xe ev_const (w_u32 (by omega))) ?_ | refine JO.py (Py.add xe ev_const (m_u32 _)) ?_)) | refine kT ?_ | refine JO.skipU rfl (Lk.ev (v := undef) xlk rfl) ?_
          refine gF ?_
          refine JO.py (Py.idxS (j := p + 2) Tryz.underlying22 siz5 xe xe (by omega) (by omega) xmult) ?_
          first | (refine gF ?_; (refine JO.py (Py.load scal5 xe xpick xrow) ?_)) | refine kT ?_ | refine JO.skipU rfl (Lk.ev (v := undef) xlk rfl) ?_
          refine gF ?_
          refine JO.call (Evs.cons xe Evs.nil) (test86_con G x2 l2) xpkE ?_
          rintro _
          show JO _ _ _ _ _ _ _ ((93, _) :: _) _ (_ :: _)
          cases hlk : Bx.far x2
          · skip
            first | (refine gT ?_; (first | refine JO.py (Py.pickT xe ev_const) ?_ | refine JO.py (Py.pickF xe xe) ?_)) | refine kF ?_ | refine JO.skipU rfl (Lk.ev (v := undef) xlk rfl) ?_
            first | refine JO.py (Py.pickT xe xe) ?_ | refine JO.py (Py.pickF xe ev_const) ?_
            refine nC ?_
            refine cF ?_
            have hns : Bx.skip 2 x1 x2 x3 = false := by unfold Bx.skip Bx.look; simpa using hlk
            refine JC.skip (JX.code (sR ?_))
            refine oM ?_
            refine oM ?_
            first | refine JO.py (Py.add xe ev_const (w_u32 (by omega))) ?_ | refine JO.py (Py.add xe ev_const (m_u32 _)) ?_
            refine JO.py (Py.idxS (j := p + 4) Tryz.underlying22 siz5 xe xe (by omega) (by omega) xmult) ?_
            refine JO.py (Py.load scal5 xe xpick xrow) ?_
            refine JO.call (Evs.cons xe Evs.nil) (test86_con G x4 l4) xpkE ?_
            rintro _
            show JO _ _ _ _ _ _ _ ((106, _) :: _) _ (_ :: _)
            cases hf4 : Bx.far x4
            · skip
              refine nC ?_
              refine cF ?_
              refine sR ?_
              refine oM ?_
              refine JO.py (Py.shr 1 2 xe ev_const rfl (by decide) (by decide) (by decide)) ?_
              refine JO.py (Py.to (Py.orN xe ev_const (r_u32 (by omega)) (r_u32 (by omega)) (by decide)) (v' := .int .u32 (2 / 2 + 4 : Nat)) (vint (or_int (x := 2 / 2) (y := 4) (by omega) rfl (or_lo (k := 2) (a := 1) (by omega) rfl)))) ?_
              refine oA ?_
              refine nC (JC.region ?_)
              refine oM ?_
              first | refine JO.py (Py.add xe ev_const (w_u32 (by omega))) ?_ | refine JO.py (Py.add xe ev_const (m_u32 _)) ?_
              refine oA ?_
              refine JO.nil (JX.blockN ?_)
              refine JX.loop (p + 1, 2 / 2 + 4, out ++ [x0], cs') ⟨by dsimp only; rw [← e0]; exact hD.left h5 (by rw [e0]; exact hop) (by rw [e1, e2, e3, e4]; exact .inr hf4), by dsimp only; rw [← e0, Bx.cat_next (by omega)]; exact hR, hz⟩ (by dsimp only; omega) xag xpkE
            · skip
              refine nC ?_
              refine cT ?_
              refine sR ?_
              refine oM ?_
              refine oM ?_
              first | refine JO.py (Py.add xe ev_const (w_u32 (by omega))) ?_ | refine JO.py (Py.add xe ev_const (m_u32 _)) ?_
              refine JO.py (Py.slc (l := p + 1) (h := l) (p := o + (p + 1)) (q := l - (p + 1)) (c := c - (p + 1)) Tryz.underlying22 siz5 xe (Bd.some xe (by omega)) Bd.none (by omega) (by omega) (by omega) (by omega) (by omega) (by omega)) ?_
              refine JO.call (Evs.cons xe Evs.nil) (le32_con G b (o + (p + 1)) (l - (p + 1)) (c - (p + 1)) 5 (0, 0) cs' x1 x2 x3 x4 (by omega) k1 k2 k3 k4) xpkE ?_
              rintro _
              show JO _ _ _ _ _ _ _ ((111, _) :: _) _ (_ :: _ :: _)
              have hwl := le32_lt l1 l2 l3 l4
              obtain ⟨w, hw⟩ : ∃ w, Bx.le x1 x2 x3 x4 = w := ⟨_, rfl⟩
              rw [hw] at hwl ⊢
              refine oA ?_
              refine nC (JC.seq ?_)
              refine JC.regionM [(0, true), (1, true), (2, true), (3, true), (4, true), (8, true), (5, false), (6, true), (7, true), (9, true), (10, true)] mixed (by kernel_rfl) ?_
              refine JM.py ao ⟨fun _ => Py.move xe⟩ ?_
              refine JM.py ao ⟨fun _ => Py.nil xe⟩ ?_
              refine JM.py ao ⟨fun _ => Py.fld fld123_0 xe xoff⟩ ?_
              refine JM.ld ao scal45 xe xpick xrow ?_
              refine JM.py ao ⟨fun _ => Py.move xe⟩ ?_
              refine JM.py ao ⟨fun _ => Py.move xe⟩ ?_
              refine JM.eff ao ?_
              refine JO.call (Evs.cons xe Evs.nil) (size5_con G (.pointer (some ⟨cb, 0, none⟩)) (cel cb 123 #[.int .u32 (ip : Nat), .int .u32 (mk : Nat)])) xpkE ?_
              rintro _
              show JO _ _ _ _ _ _ _ ((117, _) :: _) _ (_ :: _ :: _)
              refine JO.nil ?_
              refine JX.mix (Kept.keep (fun _ hw => hw.cell xpick xrow) Kept.nil) ?_
              first | refine JM.py ao ⟨fun _ => Py.conv cnv3_45 xe (w_u32 (by omega))⟩ ?_ | refine JM.py ao ⟨fun _ => Py.conv cnv3_45 xe (m_u32 _)⟩ ?_
              first | refine JM.py ao ⟨fun _ => Py.add xe xe (w_u32 (by omega))⟩ ?_ | refine JM.py ao ⟨fun _ => Py.add xe xe (m_u32 _)⟩ ?_
              first | refine JM.py ao ⟨fun _ => Py.add xe xe (w_u32 (by omega))⟩ ?_ | refine JM.py ao ⟨fun _ => Py.add xe xe (m_u32 _)⟩ ?_
              refine JM.py ao ⟨fun _ => Py.assign xe⟩ ?_
              refine JM.nil (JX.code (sR ?_))
              refine oM ?_
              refine oM ?_
              refine JO.call (Evs.cons xe Evs.nil) (size5_con G (.pointer (some ⟨cb, 0, none⟩)) (cel cb 123 #[.int .u32 (ip : Nat), .int .u32 (mk : Nat)])) xpkE ?_
              rintro _
              show JO _ _ _ _ _ _ _ ((124, _) :: _) _ (_ :: _ :: _)
              first | refine JO.py (Py.conv cnv3_45 xe (w_u32 (by omega))) ?_ | refine JO.py (Py.conv cnv3_45 xe (m_u32 _)) ?_
              first | refine JO.py (Py.add xe xe (w_u32 (by omega))) ?_ | refine JO.py (Py.add xe xe (m_u32 _)) ?_
              refine oA ?_
              refine nC (JC.seq (sR ?_))
              refine oM ?_
              refine nC ?_
              refine cF ?_
              obtain ⟨v, hv⟩ : ∃ v, (w + (4294967296 - (ip + p + 5) % 4294967296)) % 4294967296 = v := ⟨_, rfl⟩
              have hvl : v < 4294967296 := by omega
              refine JC.region ?_
              refine oM ?_
              refine oM ?_
              refine JO.py (Py.to (Py.sub xe xe (m_u32 _)) (v' := .int .u32 (v : Nat)) (vint (by omega))) ?_
              refine oA ?_
              refine nC (JC.seq (sR ?_))
              refine oM ?_
              first | refine oD (Py.neq xe ev_const) ?_ | refine oU (Py.neq xe ev_const) ?_ | refine JO.py (Py.neq xe ev_const) ?_
              refine nC ?_
              refine cT ?_
              refine sR ?_
              refine oM ?_
              refine JO.py (Py.to (Py.andN xe ev_const (r_u32 (by omega)) (r_u32 (by omega)) (by decide)) (v' := .int .u32 2) (vint (by rfl))) ?_
              first | refine JO.py (Py.shl 2 4 xe ev_const rfl (by decide) (by decide) (w_u32 (by omega))) ?_ | refine JO.py (Py.shl 2 4 xe ev_const rfl (by decide) (by decide) (m_u32 _)) ?_
              refine oA ?_
              refine nC (JC.seq (sR ?_))
              refine oM ?_
              refine oM ?_
              refine JO.py (Py.shrN 8 (a := v) xe xe (by omega) (by decide)) ?_
              refine JO.py (Py.to (Py.conv cnv45_5 xe (m_u8 _)) (v' := vu8 (v / 256 % 256)) (vint (by omega))) ?_
              refine JO.call (Evs.cons xe Evs.nil) (test86_con G (v / 256 % 256) (by omega)) xpkE ?_
              rintro _
              show JO _ _ _ _ _ _ _ ((143, _) :: _) _ (_ :: _)
              cases hff : Bx.far (v / 256 % 256)
              · skip
                refine nC ?_
                refine cF ?_
                refine JC.skip (JX.code (JC.region ?_))
                refine oC ?_
                refine nC (sR ?_)
                refine oM ?_
                refine oM ?_
                first | refine JO.py (Py.add xe ev_const (w_u32 (by omega))) ?_ | refine JO.py (Py.add xe ev_const (m_u32 _)) ?_
                refine JO.py (Py.slc (l := p + 1) (h := l) (p := o + (p + 1)) (q := l - (p + 1)) (c := c - (p + 1)) Tryz.underlying22 siz5 xe (Bd.some xe (by omega)) Bd.none (by omega) (by omega) (by omega) (by omega) (by omega) (by omega)) ?_
                refine oM ?_
                refine JO.call (Evs.cons xe (Evs.cons xe Evs.nil)) (putLE_con G b (o + (p + 1)) (l - (p + 1)) (c - (p + 1)) cs' (vu8 x4) v _ _ _ _ (by omega) (by omega) k4.1 (by omega) rfl rfl rfl rfl) xpkE ?_
                rintro _
                show JO _ _ _ _ _ _ _ ((161, _) :: _) _ (_ :: _ :: _)
                have g4 := put5_get (cs := cs') (o := o) (p := p) (v1 := vu8 (v / 1 % 256)) (v2 := vu8 (v / 256 % 256)) (v3 := vu8 (v / 65536 % 256)) (v4 := vu8 (v / 16777216 % 256)) (by omega)
                have hR2 := put5_ok (y1 := v / 1 % 256) (y2 := v / 256 % 256) (y3 := v / 65536 % 256) (z := v / 16777216 % 256) (y4 := Bx.by4 v) hR hlen h5 (by omega) e0 (by omega) (by omega) (by omega) (by omega) (by unfold Bx.by4; split <;> omega)
                have hD2 := hD.conv (v := v) h5 (by rw [e0]; exact hop) (by rw [e1, e2, e3]; exact hns) (by rw [e4]; exact hf4) (by rw [e1, e2, e3, e4, hw]; exact (Bx.dec1_2.trans (by rw [hv, if_neg (by rw [hff]; decide)])))
                rw [e0] at hD2
                rw [Nat.div_one v] at hR2 g4 ⊢
                obtain ⟨cs2, hcs2⟩ : ∃ y, ((((cs'.setIfInBounds (o + (p + 1) + 0) (vu8 (v % 256))).setIfInBounds (o + (p + 1) + 1) (vu8 (v / 256 % 256))).setIfInBounds (o + (p + 1) + 2) (vu8 (v / 65536 % 256))).setIfInBounds (o + (p + 1) + 3) (vu8 (v / 16777216 % 256))) = y := ⟨_, rfl⟩
                have hz2 : cs2.size = cs.size := by rw [← hcs2]; simp only [Array.size_setIfInBounds]; exact hz
                rw [hcs2] at hR2 g4 ⊢
                refine nC (JC.region ?_)
                refine oM ?_
                refine oM ?_
                first | refine JO.py (Py.add xe ev_const (w_u32 (by omega))) ?_ | refine JO.py (Py.add xe ev_const (m_u32 _)) ?_
                refine oM ?_
                refine oM ?_
                first | refine JO.py (Py.add xe ev_const (w_u32 (by omega))) ?_ | refine JO.py (Py.add xe ev_const (m_u32 _)) ?_
                refine JO.py (Py.idxS (j := p + 4) Tryz.underlying22 siz5 xe xe (by omega) (by omega) xmult) ?_
                refine JO.py (Py.load scal5 xe xpick xrow) ?_
                refine JO.py (Py.mask 1 2 xe ev_const (by decide) (by decide) (by decide) (r_u8 (by omega)) (w_u8 (by omega))) ?_
                refine JO.py (Py.to (Py.sub ev_const xe (m_u8 _)) (v' := vu8 (Bx.by4 v)) (vint (by unfold Bx.by4; split <;> omega))) ?_
                refine JO.py (Py.idxS (j := p + 4) Tryz.underlying22 siz5 xe xe (by omega) (by omega) xmult) ?_
                refine JO.store siz5 xe xe (by first | rfl | assumption) xpick xsize xnorm ?_
                refine JO.nil (JX.blockN ?_)
                refine JX.loop (p + 5, 0, out ++ [x0, Bx.by1 v, Bx.by2 v, Bx.by3 v, Bx.by4 v], cs2.setIfInBounds (o + (p + 4)) (vu8 (Bx.by4 v))) ⟨hD2, hR2, by dsimp only; rw [Array.size_setIfInBounds]; exact hz2⟩ (by dsimp only; omega) xag xpkE
              · skip
                refine nC ?_
                refine cT ?_
                obtain ⟨f, hfx⟩ : ∃ f, v ^^^ 65535 = f := ⟨_, rfl⟩
                have hfl : Bx.fl 65536 v = f := by rw [← hfx]; exact (Bx.fl_xor 16 v).symm
                have hfb : f < 4294967296 := by rw [← hfx]; exact Nat.xor_lt_two_pow (n := 32) hvl (by decide)
                obtain ⟨v2, hv2⟩ : ∃ y, (f + (4294967296 - (ip + p + 5) % 4294967296)) % 4294967296 = y := ⟨_, rfl⟩
                have hv2l : v2 < 4294967296 := by omega
                refine sR ?_
                refine oM ?_
                refine oM ?_
                refine JO.py (Py.to (Py.shlN 8 ev_const xe (by omega) (by decide) (w_u32 (by decide))) (v' := .int .u32 65536) (vint (by decide))) ?_
                first | refine JO.py (Py.sub xe ev_const (w_u32 (by omega))) ?_ | refine JO.py (Py.sub xe ev_const (m_u32 _)) ?_
                refine JO.py (Py.to (Py.xorN xe xe (r_u32 (by omega)) (r_u32 (by omega)) (by decide)) (v' := .int .u32 (f : Nat)) (vint (by rw [← hfx]; rfl))) ?_
                refine oA ?_
                refine nC (sR ?_)
                refine oM ?_
                refine nC ?_
                refine cF ?_
                refine JC.region ?_
                refine oM ?_
                refine oM ?_
                refine JO.py (Py.to (Py.sub xe xe (m_u32 _)) (v' := .int .u32 (v2 : Nat)) (vint (by omega))) ?_
                refine oA ?_
                refine nC (JC.region ?_)
                refine oC ?_
                refine nC (sR ?_)
                refine oM ?_
                refine oM ?_
                first | refine JO.py (Py.add xe ev_const (w_u32 (by omega))) ?_ | refine JO.py (Py.add xe ev_const (m_u32 _)) ?_
                refine JO.py (Py.slc (l := p + 1) (h := l) (p := o + (p + 1)) (q := l - (p + 1)) (c := c - (p + 1)) Tryz.underlying22 siz5 xe (Bd.some xe (by omega)) Bd.none (by omega) (by omega) (by omega) (by omega) (by omega) (by omega)) ?_
                refine oM ?_
                refine JO.call (Evs.cons xe (Evs.cons xe Evs.nil)) (putLE_con G b (o + (p + 1)) (l - (p + 1)) (c - (p + 1)) cs' (vu8 x4) v2 _ _ _ _ (by omega) (by omega) k4.1 (by omega) rfl rfl rfl rfl) xpkE ?_
                rintro _
                show JO _ _ _ _ _ _ _ ((161, _) :: _) _ (_ :: _ :: _)
                have g4 := put5_get (cs := cs') (o := o) (p := p) (v1 := vu8 (v2 / 1 % 256)) (v2 := vu8 (v2 / 256 % 256)) (v3 := vu8 (v2 / 65536 % 256)) (v4 := vu8 (v2 / 16777216 % 256)) (by omega)
                have hR2 := put5_ok (y1 := v2 / 1 % 256) (y2 := v2 / 256 % 256) (y3 := v2 / 65536 % 256) (z := v2 / 16777216 % 256) (y4 := Bx.by4 v2) hR hlen h5 (by omega) e0 (by omega) (by omega) (by omega) (by omega) (by unfold Bx.by4; split <;> omega)
                have hD2 := hD.conv (v := v2) h5 (by rw [e0]; exact hop) (by rw [e1, e2, e3]; exact hns) (by rw [e4]; exact hf4) (by rw [e1, e2, e3, e4, hw]; exact (Bx.dec1_2.trans (by rw [hv, if_pos hff, hfl]; exact hv2)))
                rw [e0] at hD2
                rw [Nat.div_one v2] at hR2 g4 ⊢
                obtain ⟨cs2, hcs2⟩ : ∃ y, ((((cs'.setIfInBounds (o + (p + 1) + 0) (vu8 (v2 % 256))).setIfInBounds (o + (p + 1) + 1) (vu8 (v2 / 256 % 256))).setIfInBounds (o + (p + 1) + 2) (vu8 (v2 / 65536 % 256))).setIfInBounds (o + (p + 1) + 3) (vu8 (v2 / 16777216 % 256))) = y := ⟨_, rfl⟩
                have hz2 : cs2.size = cs.size := by rw [← hcs2]; simp only [Array.size_setIfInBounds]; exact hz
                rw [hcs2] at hR2 g4 ⊢
                refine nC (JC.region ?_)
                refine oM ?_
                refine oM ?_
                first | refine JO.py (Py.add xe ev_const (w_u32 (by omega))) ?_ | refine JO.py (Py.add xe ev_const (m_u32 _)) ?_
                refine oM ?_
                refine oM ?_
                first | refine JO.py (Py.add xe ev_const (w_u32 (by omega))) ?_ | refine JO.py (Py.add xe ev_const (m_u32 _)) ?_
                refine JO.py (Py.idxS (j := p + 4) Tryz.underlying22 siz5 xe xe (by omega) (by omega) xmult) ?_
                refine JO.py (Py.load scal5 xe xpick xrow) ?_
                refine JO.py (Py.mask 1 2 xe ev_const (by decide) (by decide) (by decide) (r_u8 (by omega)) (w_u8 (by omega))) ?_
                refine JO.py (Py.to (Py.sub ev_const xe (m_u8 _)) (v' := vu8 (Bx.by4 v2)) (vint (by unfold Bx.by4; split <;> omega))) ?_
                refine JO.py (Py.idxS (j := p + 4) Tryz.underlying22 siz5 xe xe (by omega) (by omega) xmult) ?_
                refine JO.store siz5 xe xe (by first | rfl | assumption) xpick xsize xnorm ?_
                refine JO.nil (JX.blockN ?_)
                refine JX.loop (p + 5, 0, out ++ [x0, Bx.by1 v2, Bx.by2 v2, Bx.by3 v2, Bx.by4 v2], cs2.setIfInBounds (o + (p + 4)) (vu8 (Bx.by4 v2))) ⟨hD2, hR2, by dsimp only; rw [Array.size_setIfInBounds]; exact hz2⟩ (by dsimp only; omega) xag xpkE
          · skip
            first | (refine gT ?_; (first | refine JO.py (Py.pickT xe ev_const) ?_ | refine JO.py (Py.pickF xe xe) ?_)) | refine kF ?_ | refine JO.skipU rfl (Lk.ev (v := undef) xlk rfl) ?_
            first | refine JO.py (Py.pickT xe xe) ?_ | refine JO.py (Py.pickF xe ev_const) ?_
            refine nC ?_
            refine cT ?_
            refine sR ?_
            refine oM ?_
            refine JO.py (Py.shr 1 2 xe ev_const rfl (by decide) (by decide) (by decide)) ?_
            refine JO.py (Py.to (Py.orN xe ev_const (r_u32 (by omega)) (r_u32 (by omega)) (by decide)) (v' := .int .u32 (2 / 2 + 4 : Nat)) (vint (or_int (x := 2 / 2) (y := 4) (by omega) rfl (or_lo (k := 2) (a := 1) (by omega) rfl)))) ?_
            refine oA ?_
            refine nC (sR ?_)
            refine oM ?_
            first | refine JO.py (Py.add xe ev_const (w_u32 (by omega))) ?_ | refine JO.py (Py.add xe ev_const (m_u32 _)) ?_
            refine oA ?_
            refine nC (JC.exit (JX.exit (JX.blockE ?_)))
            refine JX.loop (p + 1, 2 / 2 + 4, out ++ [x0], cs') ⟨by dsimp only; rw [← e0]; exact hD.left h5 (by rw [e0]; exact hop) (by rw [e1, e2, e3, e4]; exact .inl (by unfold Bx.skip Bx.look; simpa using hlk)), by dsimp only; rw [← e0, Bx.cat_next (by omega)]; exact hR, hz⟩ (by dsimp only; omega) xag xpkE
        · skip
          refine oA ?_
          refine nC (sR ?_)
          refine oM ?_
          first | refine oD (Py.neq xe ev_const) ?_ | refine oU (Py.neq xe ev_const) ?_ | refine JO.py (Py.neq xe ev_const) ?_
          refine oM ?_
          first | (refine gT ?_; (refine oM ?_)) | refine kF ?_ | refine JO.skipU rfl (Lk.ev (v := undef) xlk rfl) ?_
          first | (refine gT ?_; (first | refine oD (Py.gtr xe ev_const) ?_ | refine oU (Py.gtr xe ev_const) ?_ | refine JO.py (Py.gtr xe ev_const) ?_)) | refine kF ?_ | refine JO.skipU rfl (Lk.ev (v := undef) xlk rfl) ?_
          first | (refine gT ?_; (refine oM ?_)) | refine kF ?_ | refine JO.skipU rfl (Lk.ev (v := undef) xlk rfl) ?_
          first | (refine gF ?_; (refine oM ?_)) | refine kT ?_ | refine JO.skipU rfl (Lk.ev (v := undef) xlk rfl) ?_
          first | (refine gF ?_; (first | refine oD (Py.eql xe ev_const) ?_ | refine oU (Py.eql xe ev_const) ?_ | refine JO.py (Py.eql xe ev_const) ?_)) | refine kT ?_ | refine JO.skipU rfl (Lk.ev (v := undef) xlk rfl) ?_
          first | (refine gT ?_; (first | refine JO.py (Py.pickT xe ev_const) ?_ | refine JO.py (Py.pickF xe xe) ?_)) | refine kF ?_ | refine JO.skipU rfl (Lk.ev (v := undef) xlk rfl) ?_
          first | (refine gT ?_; (refine oM ?_)) | refine kF ?_ | refine JO.skipU rfl (Lk.ev (v := undef) xlk rfl) ?_
          first | (refine gF ?_; (refine oM ?_)) | refine kT ?_ | refine JO.skipU rfl (Lk.ev (v := undef) xlk rfl) ?_
          first | (refine gF ?_; (refine oM ?_)) | refine kT ?_ | refine JO.skipU rfl (Lk.ev (v := undef) xlk rfl) ?_
          first | (refine gF ?_; (refine oM ?_)) | refine kT ?_ | refine JO.skipU rfl (Lk.ev (v := undef) xlk rfl) ?_
          first | (refine gF ?_; (refine JO.py (Py.shr 1 2 xe ev_const rfl (by decide) (by decide) (by decide)) ?_)) | refine kT ?_ | refine JO.skipU rfl (Lk.ev (v := undef) xlk rfl) ?_
          first | (refine gF ?_; (first | refine JO.py (Py.add xe xe (w_u32 (by omega))) ?_ | refine JO.py (Py.add xe xe (m_u32 _)) ?_)) | refine kT ?_ | refine JO.skipU rfl (Lk.ev (v := undef) xlk rfl) ?_
          first | (refine gF ?_; (first | refine JO.py (Py.add xe ev_const (w_u32 (by omega))) ?_ | refine JO.py (Py.add xe ev_const (m_u32 _)) ?_)) | refine kT ?_ | refine JO.skipU rfl (Lk.ev (v := undef) xlk rfl) ?_
          refine gF ?_
          refine JO.py (Py.idxS (j := p + 3) Tryz.underlying22 siz5 xe xe (by omega) (by omega) xmult) ?_
          first | (refine gF ?_; (refine JO.py (Py.load scal5 xe xpick xrow) ?_)) | refine kT ?_ | refine JO.skipU rfl (Lk.ev (v := undef) xlk rfl) ?_
          refine gF ?_
          refine JO.call (Evs.cons xe Evs.nil) (test86_con G x3 l3) xpkE ?_
          rintro _
          show JO _ _ _ _ _ _ _ ((93, _) :: _) _ (_ :: _)
          cases hlk : Bx.far x3
          · skip
            first | (refine gT ?_; (first | refine JO.py (Py.pickT xe ev_const) ?_ | refine JO.py (Py.pickF xe xe) ?_)) | refine kF ?_ | refine JO.skipU rfl (Lk.ev (v := undef) xlk rfl) ?_
            first | refine JO.py (Py.pickT xe xe) ?_ | refine JO.py (Py.pickF xe ev_const) ?_
            refine nC ?_
            refine cF ?_
            have hns : Bx.skip 4 x1 x2 x3 = false := by unfold Bx.skip Bx.look; simpa using hlk
            refine JC.skip (JX.code (sR ?_))
            refine oM ?_
            refine oM ?_
            first | refine JO.py (Py.add xe ev_const (w_u32 (by omega))) ?_ | refine JO.py (Py.add xe ev_const (m_u32 _)) ?_
            refine JO.py (Py.idxS (j := p + 4) Tryz.underlying22 siz5 xe xe (by omega) (by omega) xmult) ?_
            refine JO.py (Py.load scal5 xe xpick xrow) ?_
            refine JO.call (Evs.cons xe Evs.nil) (test86_con G x4 l4) xpkE ?_
            rintro _
            show JO _ _ _ _ _ _ _ ((106, _) :: _) _ (_ :: _)
            cases hf4 : Bx.far x4
            · skip
              refine nC ?_
              refine cF ?_
              refine sR ?_
              refine oM ?_
              refine JO.py (Py.shr 1 2 xe ev_const rfl (by decide) (by decide) (by decide)) ?_
              refine JO.py (Py.to (Py.orN xe ev_const (r_u32 (by omega)) (r_u32 (by omega)) (by decide)) (v' := .int .u32 (4 / 2 + 4 : Nat)) (vint (or_int (x := 4 / 2) (y := 4) (by omega) rfl (or_lo (k := 2) (a := 1) (by omega) rfl)))) ?_
              refine oA ?_
              refine nC (JC.region ?_)
              refine oM ?_
              first | refine JO.py (Py.add xe ev_const (w_u32 (by omega))) ?_ | refine JO.py (Py.add xe ev_const (m_u32 _)) ?_
              refine oA ?_
              refine JO.nil (JX.blockN ?_)
              refine JX.loop (p + 1, 4 / 2 + 4, out ++ [x0], cs') ⟨by dsimp only; rw [← e0]; exact hD.left h5 (by rw [e0]; exact hop) (by rw [e1, e2, e3, e4]; exact .inr hf4), by dsimp only; rw [← e0, Bx.cat_next (by omega)]; exact hR, hz⟩ (by dsimp only; omega) xag xpkE
            · skip
              refine nC ?_
              refine cT ?_
              refine sR ?_
              refine oM ?_
              refine oM ?_
              first | refine JO.py (Py.add xe ev_const (w_u32 (by omega))) ?_ | refine JO.py (Py.add xe ev_const (m_u32 _)) ?_
              refine JO.py (Py.slc (l := p + 1) (h := l) (p := o + (p + 1)) (q := l - (p + 1)) (c := c - (p + 1)) Tryz.underlying22 siz5 xe (Bd.some xe (by omega)) Bd.none (by omega) (by omega) (by omega) (by omega) (by omega) (by omega)) ?_
              refine JO.call (Evs.cons xe Evs.nil) (le32_con G b (o + (p + 1)) (l - (p + 1)) (c - (p + 1)) 5 (0, 0) cs' x1 x2 x3 x4 (by omega) k1 k2 k3 k4) xpkE ?_
              rintro _
              show JO _ _ _ _ _ _ _ ((111, _) :: _) _ (_ :: _ :: _)
              have hwl := le32_lt l1 l2 l3 l4
              obtain ⟨w, hw⟩ : ∃ w, Bx.le x1 x2 x3 x4 = w := ⟨_, rfl⟩
              rw [hw] at hwl ⊢
              refine oA ?_
              refine nC (JC.seq ?_)
              refine JC.regionM [(0, true), (1, true), (2, true), (3, true), (4, true), (8, true), (5, false), (6, true), (7, true), (9, true), (10, true)] mixed (by kernel_rfl) ?_
              refine JM.py ao ⟨fun _ => Py.move xe⟩ ?_
              refine JM.py ao ⟨fun _ => Py.nil xe⟩ ?_
              refine JM.py ao ⟨fun _ => Py.fld fld123_0 xe xoff⟩ ?_
              refine JM.ld ao scal45 xe xpick xrow ?_
              refine JM.py ao ⟨fun _ => Py.move xe⟩ ?_
              refine JM.py ao ⟨fun _ => Py.move xe⟩ ?_
              refine JM.eff ao ?_
              refine JO.call (Evs.cons xe Evs.nil) (size5_con G (.pointer (some ⟨cb, 0, none⟩)) (cel cb 123 #[.int .u32 (ip : Nat), .int .u32 (mk : Nat)])) xpkE ?_
              rintro _
              show JO _ _ _ _ _ _ _ ((117, _) :: _) _ (_ :: _ :: _)
              refine JO.nil ?_
              refine JX.mix (Kept.keep (fun _ hw => hw.cell xpick xrow) Kept.nil) ?_
              first | refine JM.py ao ⟨fun _ => Py.conv cnv3_45 xe (w_u32 (by omega))⟩ ?_ | refine JM.py ao ⟨fun _ => Py.conv cnv3_45 xe (m_u32 _)⟩ ?_
              first | refine JM.py ao ⟨fun _ => Py.add xe xe (w_u32 (by omega))⟩ ?_ | refine JM.py ao ⟨fun _ => Py.add xe xe (m_u32 _)⟩ ?_
              first | refine JM.py ao ⟨fun _ => Py.add xe xe (w_u32 (by omega))⟩ ?_ | refine JM.py ao ⟨fun _ => Py.add xe xe (m_u32 _)⟩ ?_
              refine JM.py ao ⟨fun _ => Py.assign xe⟩ ?_
              refine JM.nil (JX.code (sR ?_))
              refine oM ?_
              refine oM ?_
              refine JO.call (Evs.cons xe Evs.nil) (size5_con G (.pointer (some ⟨cb, 0, none⟩)) (cel cb 123 #[.int .u32 (ip : Nat), .int .u32 (mk : Nat)])) xpkE ?_
              rintro _
              show JO _ _ _ _ _ _ _ ((124, _) :: _) _ (_ :: _ :: _)
              first | refine JO.py (Py.conv cnv3_45 xe (w_u32 (by omega))) ?_ | refine JO.py (Py.conv cnv3_45 xe (m_u32 _)) ?_
              first | refine JO.py (Py.add xe xe (w_u32 (by omega))) ?_ | refine JO.py (Py.add xe xe (m_u32 _)) ?_
              refine oA ?_
              refine nC (JC.seq (sR ?_))
              refine oM ?_
              refine nC ?_
              refine cF ?_
              obtain ⟨v, hv⟩ : ∃ v, (w + (4294967296 - (ip + p + 5) % 4294967296)) % 4294967296 = v := ⟨_, rfl⟩
              have hvl : v < 4294967296 := by omega
              refine JC.region ?_
              refine oM ?_
              refine oM ?_
              refine JO.py (Py.to (Py.sub xe xe (m_u32 _)) (v' := .int .u32 (v : Nat)) (vint (by omega))) ?_
              refine oA ?_
              refine nC (JC.seq (sR ?_))
              refine oM ?_
              first | refine oD (Py.neq xe ev_const) ?_ | refine oU (Py.neq xe ev_const) ?_ | refine JO.py (Py.neq xe ev_const) ?_
              refine nC ?_
              refine cT ?_
              refine sR ?_
              refine oM ?_
              refine JO.py (Py.to (Py.andN xe ev_const (r_u32 (by omega)) (r_u32 (by omega)) (by decide)) (v' := .int .u32 4) (vint (by rfl))) ?_
              first | refine JO.py (Py.shl 2 4 xe ev_const rfl (by decide) (by decide) (w_u32 (by omega))) ?_ | refine JO.py (Py.shl 2 4 xe ev_const rfl (by decide) (by decide) (m_u32 _)) ?_
              refine oA ?_
              refine nC (JC.seq (sR ?_))
              refine oM ?_
              refine oM ?_
              refine JO.py (Py.shrN 16 (a := v) xe xe (by omega) (by decide)) ?_
              refine JO.py (Py.to (Py.conv cnv45_5 xe (m_u8 _)) (v' := vu8 (v / 65536 % 256)) (vint (by omega))) ?_
              refine JO.call (Evs.cons xe Evs.nil) (test86_con G (v / 65536 % 256) (by omega)) xpkE ?_
              rintro _
              show JO _ _ _ _ _ _ _ ((143, _) :: _) _ (_ :: _)
              cases hff : Bx.far (v / 65536 % 256)
              · skip
                refine nC ?_
                refine cF ?_
                refine JC.skip (JX.code (JC.region ?_))
                refine oC ?_
                refine nC (sR ?_)
                refine oM ?_
                refine oM ?_
                first | refine JO.py (Py.add xe ev_const (w_u32 (by omega))) ?_ | refine JO.py (Py.add xe ev_const (m_u32 _)) ?_
                refine JO.py (Py.slc (l := p + 1) (h := l) (p := o + (p + 1)) (q := l - (p + 1)) (c := c - (p + 1)) Tryz.underlying22 siz5 xe (Bd.some xe (by omega)) Bd.none (by omega) (by omega) (by omega) (by omega) (by omega) (by omega)) ?_
                refine oM ?_
                refine JO.call (Evs.cons xe (Evs.cons xe Evs.nil)) (putLE_con G b (o + (p + 1)) (l - (p + 1)) (c - (p + 1)) cs' (vu8 x4) v _ _ _ _ (by omega) (by omega) k4.1 (by omega) rfl rfl rfl rfl) xpkE ?_
                rintro _
                show JO _ _ _ _ _ _ _ ((161, _) :: _) _ (_ :: _ :: _)
                have g4 := put5_get (cs := cs') (o := o) (p := p) (v1 := vu8 (v / 1 % 256)) (v2 := vu8 (v / 256 % 256)) (v3 := vu8 (v / 65536 % 256)) (v4 := vu8 (v / 16777216 % 256)) (by omega)
                have hR2 := put5_ok (y1 := v / 1 % 256) (y2 := v / 256 % 256) (y3 := v / 65536 % 256) (z := v / 16777216 % 256) (y4 := Bx.by4 v) hR hlen h5 (by omega) e0 (by omega) (by omega) (by omega) (by omega) (by unfold Bx.by4; split <;> omega)
                have hD2 := hD.conv (v := v) h5 (by rw [e0]; exact hop) (by rw [e1, e2, e3]; exact hns) (by rw [e4]; exact hf4) (by rw [e1, e2, e3, e4, hw]; exact (Bx.dec1_1.trans (by rw [hv, if_neg (by rw [hff]; decide)])))
                rw [e0] at hD2
                rw [Nat.div_one v] at hR2 g4 ⊢
                obtain ⟨cs2, hcs2⟩ : ∃ y, ((((cs'.setIfInBounds (o + (p + 1) + 0) (vu8 (v % 256))).setIfInBounds (o + (p + 1) + 1) (vu8 (v / 256 % 256))).setIfInBounds (o + (p + 1) + 2) (vu8 (v / 65536 % 256))).setIfInBounds (o + (p + 1) + 3) (vu8 (v / 16777216 % 256))) = y := ⟨_, rfl⟩
                have hz2 : cs2.size = cs.size := by rw [← hcs2]; simp only [Array.size_setIfInBounds]; exact hz
                rw [hcs2] at hR2 g4 ⊢
                refine nC (JC.region ?_)
                refine oM ?_
                refine oM ?_
                first | refine JO.py (Py.add xe ev_const (w_u32 (by omega))) ?_ | refine JO.py (Py.add xe ev_const (m_u32 _)) ?_
                refine oM ?_
                refine oM ?_
                first | refine JO.py (Py.add xe ev_const (w_u32 (by omega))) ?_ | refine JO.py (Py.add xe ev_const (m_u32 _)) ?_
                refine JO.py (Py.idxS (j := p + 4) Tryz.underlying22 siz5 xe xe (by omega) (by omega) xmult) ?_
                refine JO.py (Py.load scal5 xe xpick xrow) ?_
                refine JO.py (Py.mask 1 2 xe ev_const (by decide) (by decide) (by decide) (r_u8 (by omega)) (w_u8 (by omega))) ?_
                refine JO.py (Py.to (Py.sub ev_const xe (m_u8 _)) (v' := vu8 (Bx.by4 v)) (vint (by unfold Bx.by4; split <;> omega))) ?_
                refine JO.py (Py.idxS (j := p + 4) Tryz.underlying22 siz5 xe xe (by omega) (by omega) xmult) ?_
                refine JO.store siz5 xe xe (by first | rfl | assumption) xpick xsize xnorm ?_
                refine JO.nil (JX.blockN ?_)
                refine JX.loop (p + 5, 0, out ++ [x0, Bx.by1 v, Bx.by2 v, Bx.by3 v, Bx.by4 v], cs2.setIfInBounds (o + (p + 4)) (vu8 (Bx.by4 v))) ⟨hD2, hR2, by dsimp only; rw [Array.size_setIfInBounds]; exact hz2⟩ (by dsimp only; omega) xag xpkE
              · skip
                refine nC ?_
                refine cT ?_
                obtain ⟨f, hfx⟩ : ∃ f, v ^^^ 16777215 = f := ⟨_, rfl⟩
                have hfl : Bx.fl 16777216 v = f := by rw [← hfx]; exact (Bx.fl_xor 24 v).symm
                have hfb : f < 4294967296 := by rw [← hfx]; exact Nat.xor_lt_two_pow (n := 32) hvl (by decide)
                obtain ⟨v2, hv2⟩ : ∃ y, (f + (4294967296 - (ip + p + 5) % 4294967296)) % 4294967296 = y := ⟨_, rfl⟩
                have hv2l : v2 < 4294967296 := by omega
                refine sR ?_
                refine oM ?_
                refine oM ?_
                refine JO.py (Py.to (Py.shlN 16 ev_const xe (by omega) (by decide) (w_u32 (by decide))) (v' := .int .u32 16777216) (vint (by decide))) ?_
                first | refine JO.py (Py.sub xe ev_const (w_u32 (by omega))) ?_ | refine JO.py (Py.sub xe ev_const (m_u32 _)) ?_
                refine JO.py (Py.to (Py.xorN xe xe (r_u32 (by omega)) (r_u32 (by omega)) (by decide)) (v' := .int .u32 (f : Nat)) (vint (by rw [← hfx]; rfl))) ?_
                refine oA ?_
                refine nC (sR ?_)
                refine oM ?_
                refine nC ?_
                refine cF ?_
                refine JC.region ?_
                refine oM ?_
                refine oM ?_
                refine JO.py (Py.to (Py.sub xe xe (m_u32 _)) (v' := .int .u32 (v2 : Nat)) (vint (by omega))) ?_
                refine oA ?_
                refine nC (JC.region ?_)
                refine oC ?_
                refine nC (sR ?_)
                refine oM ?_
                refine oM ?_
                first | refine JO.py (Py.add xe ev_const (w_u32 (by omega))) ?_ | refine JO.py (Py.add xe ev_const (m_u32 _)) ?_
                refine JO.py (Py.slc (l := p + 1) (h := l) (p := o + (p + 1)) (q := l - (p + 1)) (c := c - (p + 1)) Tryz.underlying22 siz5 xe (Bd.some xe (by omega)) Bd.none (by omega) (by omega) (by omega) (by omega) (by omega) (by omega)) ?_
                refine oM ?_
                refine JO.call (Evs.cons xe (Evs.cons xe Evs.nil)) (putLE_con G b (o + (p + 1)) (l - (p + 1)) (c - (p + 1)) cs' (vu8 x4) v2 _ _ _ _ (by omega) (by omega) k4.1 (by omega) rfl rfl rfl rfl) xpkE ?_
                rintro _
                show JO _ _ _ _ _ _ _ ((161, _) :: _) _ (_ :: _ :: _)
                have g4 := put5_get (cs := cs') (o := o) (p := p) (v1 := vu8 (v2 / 1 % 256)) (v2 := vu8 (v2 / 256 % 256)) (v3 := vu8 (v2 / 65536 % 256)) (v4 := vu8 (v2 / 16777216 % 256)) (by omega)
                have hR2 := put5_ok (y1 := v2 / 1 % 256) (y2 := v2 / 256 % 256) (y3 := v2 / 65536 % 256) (z := v2 / 16777216 % 256) (y4 := Bx.by4 v2) hR hlen h5 (by omega) e0 (by omega) (by omega) (by omega) (by omega) (by unfold Bx.by4; split <;> omega)
                have hD2 := hD.conv (v := v2) h5 (by rw [e0]; exact hop) (by rw [e1, e2, e3]; exact hns) (by rw [e4]; exact hf4) (by rw [e1, e2, e3, e4, hw]; exact (Bx.dec1_1.trans (by rw [hv, if_pos hff, hfl]; exact hv2)))
                rw [e0] at hD2
                rw [Nat.div_one v2] at hR2 g4 ⊢
                obtain ⟨cs2, hcs2⟩ : ∃ y, ((((cs'.setIfInBounds (o + (p + 1) + 0) (vu8 (v2 % 256))).setIfInBounds (o + (p + 1) + 1) (vu8 (v2 / 256 % 256))).setIfInBounds (o + (p + 1) + 2) (vu8 (v2 / 65536 % 256))).setIfInBounds (o + (p + 1) + 3) (vu8 (v2 / 16777216 % 256))) = y := ⟨_, rfl⟩
                have hz2 : cs2.size = cs.size := by rw [← hcs2]; simp only [Array.size_setIfInBounds]; exact hz
                rw [hcs2] at hR2 g4 ⊢
                refine nC (JC.region ?_)
                refine oM ?_
                refine oM ?_
                first | refine JO.py (Py.add xe ev_const (w_u32 (by omega))) ?_ | refine JO.py (Py.add xe ev_const (m_u32 _)) ?_
                refine oM ?_
                refine oM ?_
                first | refine JO.py (Py.add xe ev_const (w_u32 (by omega))) ?_ | refine JO.py (Py.add xe ev_const (m_u32 _)) ?_
                refine JO.py (Py.idxS (j := p + 4) Tryz.underlying22 siz5 xe xe (by omega) (by omega) xmult) ?_
                refine JO.py (Py.load scal5 xe xpick xrow) ?_
                refine JO.py (Py.mask 1 2 xe ev_const (by decide) (by decide) (by decide) (r_u8 (by omega)) (w_u8 (by omega))) ?_
                refine JO.py (Py.to (Py.sub ev_const xe (m_u8 _)) (v' := vu8 (Bx.by4 v2)) (vint (by unfold Bx.by4; split <;> omega))) ?_
                refine JO.py (Py.idxS (j := p + 4) Tryz.underlying22 siz5 xe xe (by omega) (by omega) xmult) ?_
                refine JO.store siz5 xe xe (by first | rfl | assumption) xpick xsize xnorm ?_
                refine JO.nil (JX.blockN ?_)
                refine JX.loop (p + 5, 0, out ++ [x0, Bx.by1 v2, Bx.by2 v2, Bx.by3 v2, Bx.by4 v2], cs2.setIfInBounds (o + (p + 4)) (vu8 (Bx.by4 v2))) ⟨hD2, hR2, by dsimp only; rw [Array.size_setIfInBounds]; exact hz2⟩ (by dsimp only; omega) xag xpkE
          · skip
            first | (refine gT ?_; (first | refine JO.py (Py.pickT xe ev_const) ?_ | refine JO.py (Py.pickF xe xe) ?_)) | refine kF ?_ | refine JO.skipU rfl (Lk.ev (v := undef) xlk rfl) ?_
            first | refine JO.py (Py.pickT xe xe) ?_ | refine JO.py (Py.pickF xe ev_const) ?_
            refine nC ?_
            refine cT ?_
            refine sR ?_
            refine oM ?_
            refine JO.py (Py.shr 1 2 xe ev_const rfl (by decide) (by decide) (by decide)) ?_
            refine JO.py (Py.to (Py.orN xe ev_const (r_u32 (by omega)) (r_u32 (by omega)) (by decide)) (v' := .int .u32 (4 / 2 + 4 : Nat)) (vint (or_int (x := 4 / 2) (y := 4) (by omega) rfl (or_lo (k := 2) (a := 1) (by omega) rfl)))) ?_
            refine oA ?_
            refine nC (sR ?_)
            refine oM ?_
            first | refine JO.py (Py.add xe ev_const (w_u32 (by omega))) ?_ | refine JO.py (Py.add xe ev_const (m_u32 _)) ?_
            refine oA ?_
            refine nC (JC.exit (JX.exit (JX.blockE ?_)))
            refine JX.loop (p + 1, 4 / 2 + 4, out ++ [x0], cs') ⟨by dsimp only; rw [← e0]; exact hD.left h5 (by rw [e0]; exact hop) (by rw [e1, e2, e3, e4]; exact .inl (by unfold Bx.skip Bx.look; simpa using hlk)), by dsimp only; rw [← e0, Bx.cat_next (by omega)]; exact hR, hz⟩ (by dsimp only; omega) xag xpkE
        · skip
          by_cases hs4 : 4 < m1
          · skip
            refine oA ?_
            refine nC (sR ?_)
            refine oM ?_
            first | refine oD (Py.neq xe ev_const) ?_ | refine oU (Py.neq xe ev_const) ?_ | refine JO.py (Py.neq xe ev_const) ?_
            refine oM ?_
            first | (refine gT ?_; (refine oM ?_)) | refine kF ?_ | refine JO.skipU rfl (Lk.ev (v := undef) xlk rfl) ?_
            first | (refine gT ?_; (first | refine oD (Py.gtr xe ev_const) ?_ | refine oU (Py.gtr xe ev_const) ?_ | refine JO.py (Py.gtr xe ev_const) ?_)) | refine kF ?_ | refine JO.skipU rfl (Lk.ev (v := undef) xlk rfl) ?_
            first | (refine gT ?_; (refine oM ?_)) | refine kF ?_ | refine JO.skipU rfl (Lk.ev (v := undef) xlk rfl) ?_
            first | (refine gF ?_; (refine oM ?_)) | refine kT ?_ | refine JO.skipU rfl (Lk.ev (v := undef) xlk rfl) ?_
            first | (refine gF ?_; (first | refine oD (Py.eql xe ev_const) ?_ | refine oU (Py.eql xe ev_const) ?_ | refine JO.py (Py.eql xe ev_const) ?_)) | refine kT ?_ | refine JO.skipU rfl (Lk.ev (v := undef) xlk rfl) ?_
            first | (refine gT ?_; (first | refine JO.py (Py.pickT xe ev_const) ?_ | refine JO.py (Py.pickF xe xe) ?_)) | refine kF ?_ | refine JO.skipU rfl (Lk.ev (v := undef) xlk rfl) ?_
            first | (refine gT ?_; (refine oM ?_)) | refine kF ?_ | refine JO.skipU rfl (Lk.ev (v := undef) xlk rfl) ?_
            first | (refine gF ?_; (refine oM ?_)) | refine kT ?_ | refine JO.skipU rfl (Lk.ev (v := undef) xlk rfl) ?_
            first | (refine gF ?_; (refine oM ?_)) | refine kT ?_ | refine JO.skipU rfl (Lk.ev (v := undef) xlk rfl) ?_
            first | (refine gF ?_; (refine oM ?_)) | refine kT ?_ | refine JO.skipU rfl (Lk.ev (v := undef) xlk rfl) ?_
            first | (refine gF ?_; (refine JO.py (Py.shr 1 2 xe ev_const rfl (by decide) (by decide) (by decide)) ?_)) | refine kT ?_ | refine JO.skipU rfl (Lk.ev (v := undef) xlk rfl) ?_
            first | (refine gF ?_; (first | refine JO.py (Py.add xe xe (w_u32 (by omega))) ?_ | refine JO.py (Py.add xe xe (m_u32 _)) ?_)) | refine kT ?_ | refine JO.skipU rfl (Lk.ev (v := undef) xlk rfl) ?_
            first | (refine gF ?_; (first | refine JO.py (Py.add xe ev_const (w_u32 (by omega))) ?_ | refine JO.py (Py.add xe ev_const (m_u32 _)) ?_)) | refine kT ?_ | refine JO.skipU rfl (Lk.ev (v := undef) xlk rfl) ?_
            first | (refine gF ?_; (refine JO.py (Py.idxS Tryz.underlying22 siz5 xe xe (by omega) xidx xmult) ?_)) | refine kT ?_ | refine JO.skipU rfl (Lk.ev (v := undef) xlk rfl) ?_
            first | (refine gF ?_; (refine JO.py (Py.load scal5 xe xpick xrow) ?_)) | refine kT ?_ | refine JO.skipU rfl (Lk.ev (v := undef) xlk rfl) ?_
            refine kT ?_
            first | (refine gT ?_; (first | refine JO.py (Py.pickT xe ev_const) ?_ | refine JO.py (Py.pickF xe xe) ?_)) | refine kF ?_ | refine JO.skipU rfl (Lk.ev (v := undef) xlk rfl) ?_
            first | refine JO.py (Py.pickT xe xe) ?_ | refine JO.py (Py.pickF xe ev_const) ?_
            refine nC ?_
            refine cT ?_
            refine sR ?_
            refine oM ?_
            refine JO.py (Py.shr 1 2 xe ev_const rfl (by decide) (by decide) (by decide)) ?_
            refine JO.py (Py.to (Py.orN xe ev_const (r_u32 (by omega)) (r_u32 (by omega)) (by decide)) (v' := .int .u32 (m1 / 2 + 4 : Nat)) (vint (or_int (x := m1 / 2) (y := 4) (by omega) rfl (or_lo (k := 2) (a := 1) (by omega) rfl)))) ?_
            refine oA ?_
            refine nC (sR ?_)
            refine oM ?_
            first | refine JO.py (Py.add xe ev_const (w_u32 (by omega))) ?_ | refine JO.py (Py.add xe ev_const (m_u32 _)) ?_
            refine oA ?_
            refine nC (JC.exit (JX.exit (JX.blockE ?_)))
            refine JX.loop (p + 1, m1 / 2 + 4, out ++ [x0], cs') ⟨by dsimp only; rw [← e0]; exact hD.left h5 (by rw [e0]; exact hop) (by rw [e1, e2, e3, e4]; exact .inl (skip_of hsk)), by dsimp only; rw [← e0, Bx.cat_next (by omega)]; exact hR, hz⟩ (by dsimp only; omega) xag xpkE
          · skip
            obtain rfl : m1 = 3 := by omega
            refine oA ?_
            refine nC (sR ?_)
            refine oM ?_
            first | refine oD (Py.neq xe ev_const) ?_ | refine oU (Py.neq xe ev_const) ?_ | refine JO.py (Py.neq xe ev_const) ?_
            refine oM ?_
            first | (refine gT ?_; (refine oM ?_)) | refine kF ?_ | refine JO.skipU rfl (Lk.ev (v := undef) xlk rfl) ?_
            first | (refine gT ?_; (first | refine oD (Py.gtr xe ev_const) ?_ | refine oU (Py.gtr xe ev_const) ?_ | refine JO.py (Py.gtr xe ev_const) ?_)) | refine kF ?_ | refine JO.skipU rfl (Lk.ev (v := undef) xlk rfl) ?_
            first | (refine gT ?_; (refine oM ?_)) | refine kF ?_ | refine JO.skipU rfl (Lk.ev (v := undef) xlk rfl) ?_
            first | (refine gF ?_; (refine oM ?_)) | refine kT ?_ | refine JO.skipU rfl (Lk.ev (v := undef) xlk rfl) ?_
            first | (refine gF ?_; (first | refine oD (Py.eql xe ev_const) ?_ | refine oU (Py.eql xe ev_const) ?_ | refine JO.py (Py.eql xe ev_const) ?_)) | refine kT ?_ | refine JO.skipU rfl (Lk.ev (v := undef) xlk rfl) ?_
            first | (refine gT ?_; (first | refine JO.py (Py.pickT xe ev_const) ?_ | refine JO.py (Py.pickF xe xe) ?_)) | refine kF ?_ | refine JO.skipU rfl (Lk.ev (v := undef) xlk rfl) ?_
            first | (refine gT ?_; (refine oM ?_)) | refine kF ?_ | refine JO.skipU rfl (Lk.ev (v := undef) xlk rfl) ?_
            first | (refine gF ?_; (refine oM ?_)) | refine kT ?_ | refine JO.skipU rfl (Lk.ev (v := undef) xlk rfl) ?_
            first | (refine gF ?_; (refine oM ?_)) | refine kT ?_ | refine JO.skipU rfl (Lk.ev (v := undef) xlk rfl) ?_
            first | (refine gF ?_; (refine oM ?_)) | refine kT ?_ | refine JO.skipU rfl (Lk.ev (v := undef) xlk rfl) ?_
            first | (refine gF ?_; (refine JO.py (Py.shr 1 2 xe ev_const rfl (by decide) (by decide) (by decide)) ?_)) | refine kT ?_ | refine JO.skipU rfl (Lk.ev (v := undef) xlk rfl) ?_
            first | (refine gF ?_; (first | refine JO.py (Py.add xe xe (w_u32 (by omega))) ?_ | refine JO.py (Py.add xe xe (m_u32 _)) ?_)) | refine kT ?_ | refine JO.skipU rfl (Lk.ev (v := undef) xlk rfl) ?_
            first | (refine gF ?_; (first | refine JO.py (Py.add xe ev_const (w_u32 (by omega))) ?_ | refine JO.py (Py.add xe ev_const (m_u32 _)) ?_)) | refine kT ?_ | refine JO.skipU rfl (Lk.ev (v := undef) xlk rfl) ?_
            first | (refine gF ?_; (refine JO.py (Py.idxS Tryz.underlying22 siz5 xe xe (by omega) xidx xmult) ?_)) | refine kT ?_ | refine JO.skipU rfl (Lk.ev (v := undef) xlk rfl) ?_
            first | (refine gF ?_; (refine JO.py (Py.load scal5 xe xpick xrow) ?_)) | refine kT ?_ | refine JO.skipU rfl (Lk.ev (v := undef) xlk rfl) ?_
            refine kT ?_
            first | (refine gT ?_; (first | refine JO.py (Py.pickT xe ev_const) ?_ | refine JO.py (Py.pickF xe xe) ?_)) | refine kF ?_ | refine JO.skipU rfl (Lk.ev (v := undef) xlk rfl) ?_
            first | refine JO.py (Py.pickT xe xe) ?_ | refine JO.py (Py.pickF xe ev_const) ?_
            refine nC ?_
            refine cT ?_
            refine sR ?_
            refine oM ?_
            refine JO.py (Py.shr 1 2 xe ev_const rfl (by decide) (by decide) (by decide)) ?_
            refine JO.py (Py.to (Py.orN xe ev_const (r_u32 (by omega)) (r_u32 (by omega)) (by decide)) (v' := .int .u32 (3 / 2 + 4 : Nat)) (vint (or_int (x := 3 / 2) (y := 4) (by omega) rfl (or_lo (k := 2) (a := 1) (by omega) rfl)))) ?_
            refine oA ?_
            refine nC (sR ?_)
            refine oM ?_
            first | refine JO.py (Py.add xe ev_const (w_u32 (by omega))) ?_ | refine JO.py (Py.add xe ev_const (m_u32 _)) ?_
            refine oA ?_
            refine nC (JC.exit (JX.exit (JX.blockE ?_)))
            refine JX.loop (p + 1, 3 / 2 + 4, out ++ [x0], cs') ⟨by dsimp only; rw [← e0]; exact hD.left h5 (by rw [e0]; exact hop) (by rw [e1, e2, e3, e4]; exact .inl rfl), by dsimp only; rw [← e0, Bx.cat_next (by omega)]; exact hR, hz⟩ (by dsimp only; omega) xag xpkE
    · skip
      have q0 : ¬ z0 = 232 := fun q => hop (hz0.1 q)
      first | refine oD (Py.eql xe ev_const) ?_ | refine oU (Py.eql xe ev_const) ?_ | refine JO.py (Py.eql xe ev_const) ?_
      refine nC ?_
      refine cF ?_
      refine JC.skip (JX.blockN (JX.code (JC.region ?_)))
      refine oM ?_
      first | refine JO.py (Py.add xe ev_const (w_u32 (by omega))) ?_ | refine JO.py (Py.add xe ev_const (m_u32 _)) ?_
      refine oA ?_
      refine JO.nil ?_
      refine JX.loop (p + 1, out ++ [x0]) ⟨by dsimp only; omega, by dsimp only; rw [← pow_step hpp, ← e0]; exact hD.nop h5 (by rw [e0]; simpa using hop), by dsimp only; rw [← e0, Bx.cat_next (by omega)]; exact hR⟩ (by dsimp only; omega) xag xpkE
  · skip
    refine JC.seq (sR ?_)
    refine oM ?_
    first | refine JO.py (Py.conv cnv45_3 xe wI) ?_ | refine JO.py (Py.conv cnv45_3 xe rfl) ?_
    refine oM ?_
    refine JO.py (Py.lenS Tryz.underlying22 xe) ?_
    refine JO.py (Py.sub xe ev_const wI) ?_
    first | refine oD (Py.lss xe xe) ?_ | refine oU (Py.lss xe xe) ?_ | refine JO.py (Py.lss xe xe) ?_
    refine nC ?_
    refine cF ?_
    refine JC.exit (JX.exit (JX.exit (JX.blockE (JX.code (sR ?_)))))
    refine oM ?_
    refine oM ?_
    first | refine JO.py (Py.sub xe xe (w_u32 (by omega))) ?_ | refine JO.py (Py.sub xe xe (m_u32 _)) ?_
    refine oA ?_
    refine nC (sR ?_)
    refine oM ?_
    refine oA ?_
    refine nC (JC.seq (sR ?_))
    refine oM ?_
    first | refine JO.py (Py.conv cnv45_3 xe wI) ?_ | refine JO.py (Py.conv cnv45_3 xe rfl) ?_
    refine oM ?_
    refine JO.py (Py.lenS Tryz.underlying22 xe) ?_
    refine JO.py (Py.sub xe ev_const wI) ?_
    first | refine oD (Py.geq xe xe) ?_ | refine oU (Py.geq xe xe) ?_ | refine JO.py (Py.geq xe xe) ?_
    refine nC ?_
    refine cT ?_
    by_cases hd : 2 < p - pos
    · skip
      rw [pow_far hm7 hd] at hD
      refine JC.seq (sR ?_)
      refine oM ?_
      first | refine oD (Py.gtr xe ev_const) ?_ | refine oU (Py.gtr xe ev_const) ?_ | refine JO.py (Py.gtr xe ev_const) ?_
      refine nC ?_
      refine cT ?_
      refine JC.region ?_
      refine oM ?_
      refine JO.py (Py.nil xe) ?_
      refine JO.py (Py.fld fld123_1 xe xoff) ?_
      refine JO.store siz45 xe ev_const (by first | rfl | assumption) xpick xsize xnorm ?_
      refine nC (sR ?_)
      refine oM ?_
      refine JO.py (Py.nil xe) ?_
      refine JO.py (Py.fld fld123_0 xe xoff) ?_
      refine JO.py (Py.load scal45 xe xpick xrow) ?_
      refine oM ?_
      first | refine JO.py (Py.add xe xe (w_u32 (by omega))) ?_ | refine JO.py (Py.add xe xe (m_u32 _)) ?_
      refine JO.py (Py.nil xe) ?_
      refine JO.py (Py.fld fld123_0 xe xoff) ?_
      refine JO.store siz45 xe xe (by first | rfl | assumption) xpick xsize xnorm ?_
      refine nC (sR ?_)
      refine oM ?_
      first | refine JO.py (Py.conv cnv45_3 xe wI) ?_ | refine JO.py (Py.conv cnv45_3 xe rfl) ?_
      refine oA ?_
      refine nC (JC.ret (JX.ret (JX.blockR (JX.ret (JX.blockR ?_)))))
      refine JX.end1 (Or.inl rfl) (⟨(p, 0, out, cs'), hD, by dsimp only; omega, hR, hz⟩) Tryz.results259 ((xe).trans (by first | exact xval | (dsimp only; exact xval))) xpkE
    · skip
      refine JC.seq (sR ?_)
      refine oM ?_
      first | refine oD (Py.gtr xe ev_const) ?_ | refine oU (Py.gtr xe ev_const) ?_ | refine JO.py (Py.gtr xe ev_const) ?_
      refine nC ?_
      refine cF ?_
      refine JC.region ?_
      refine oM ?_
      refine oM ?_
      refine oM ?_
      refine JO.py (Py.shrN (p - pos) (a := m) xe xe (by omega) (by simp only [IntKind.bits]; omega)) ?_
      refine JO.py (Py.nil xe) ?_
      refine JO.py (Py.fld fld123_1 xe xoff) ?_
      refine JO.store siz45 xe xe (by first | rfl | assumption) xpick xsize xnorm ?_
      refine nC (sR ?_)
      refine oM ?_
      refine JO.py (Py.nil xe) ?_
      refine JO.py (Py.fld fld123_0 xe xoff) ?_
      refine JO.py (Py.load scal45 xe xpick xrow) ?_
      refine oM ?_
      first | refine JO.py (Py.add xe xe (w_u32 (by omega))) ?_ | refine JO.py (Py.add xe xe (m_u32 _)) ?_
      refine JO.py (Py.nil xe) ?_
      refine JO.py (Py.fld fld123_0 xe xoff) ?_
      refine JO.store siz45 xe xe (by first | rfl | assumption) xpick xsize xnorm ?_
      refine nC (sR ?_)
      refine oM ?_
      first | refine JO.py (Py.conv cnv45_3 xe wI) ?_ | refine JO.py (Py.conv cnv45_3 xe rfl) ?_
      refine oA ?_
      refine nC (JC.ret (JX.ret (JX.blockR (JX.ret (JX.blockR ?_)))))
      refine JX.end1 (Or.inl rfl) (⟨(p, m / 2 ^ (p - pos), out, cs'), hD, by dsimp only; omega, hR, hz⟩) Tryz.results259 ((xe).trans (by first | exact xval | (dsimp only; exact xval))) xpkE
end Go.Proofs.YtfpepghmbeoanaaGreatDoor
