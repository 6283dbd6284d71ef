/-
The filter x86 of the reference.
-/
import Derived.Test.YtfpepghmbeoanaaGreatDoorR04
set_option linter.unusedSimpArgs false
set_option linter.unusedVariables false
open Go Go.RowKit
namespace Go.Proofs.YtfpepghmbeoanaaGreatDoor
theorem RdOk.size {cs : Array Value} {o : Nat} {bs : List Nat} (h : RdOk cs o bs) (hb : 0 < bs.length) : o + bs.length ≤ cs.size := by
  have := (Array.getElem?_eq_some_iff.1 (h (bs.length - 1) (by omega)).1).1
  omega
/-- A text that is given. -/
theorem Src.text {P : Program} {G : Gst} {As r : List Asn} {bb ob bl bc : Nat} {ba : Option Addr} {cs : Array Value} {T : TypeId} {fr : Nat × Nat} {bs : List Nat} {x : Value} (hx : x = .slice ba bl bc) (hba : 0 < bl → ba = some ⟨bb, ob, none⟩ ∧ bl ≤ bc) (q : Pick (blk bb (.cells cs T fr)) As r) (hb : RdOk cs ob bs) (hbl : bs.length = bl) :
    Src P G As x bl (u8s bs) := by
  rcases Nat.eq_zero_or_pos bl with hz | hz
  · subst hz hx
    obtain rfl : bs = [] := List.eq_nil_of_length_eq_zero hbl
    refine ⟨fun w => rfl, fun w _ => ?_, u8s_one, rfl⟩
    cases ba with
    | none => rfl
    | some a => simp [Builtin.firstCells, loadCells]; rfl
  · obtain ⟨rfl, -⟩ := hba hz
    have hs := hb.size (by omega)
    exact Src.cel hx q (by omega) (hb.ext hbl (by omega)) u8s_one
def al8 : Array Value := #[.bool true, .bool true, .bool true, .bool false, .bool true, .bool false, .bool false, .bool false]
def nm8 : Array Value := #[.int .u64 0, .int .u64 1, .int .u64 2, .int .u64 2, .int .u64 3, .int .u64 3, .int .u64 3, .int .u64 3]
theorem al_no {j : Nat} (hj : j < 8) (h : j = 3 ∨ 5 ≤ j) : al8[j]? = some (.bool false) := by
  obtain rfl | rfl | rfl | rfl : j = 3 ∨ j = 5 ∨ j = 6 ∨ j = 7 := by omega
  all_goals rfl
theorem al_yes {j : Nat} (hj : j < 8) (h : ¬ (j = 3 ∨ 5 ≤ j)) : al8[j]? = some (.bool true) := by
  obtain rfl | rfl | rfl | rfl : j = 0 ∨ j = 1 ∨ j = 2 ∨ j = 4 := by omega
  all_goals rfl
theorem al8_size : al8.size = 8 := rfl
theorem hm_or1 (h : Bx.H) : h.hm ||| 1 = h.hm + 1 := by
  rcases h with ⟨_ | _ | _, _ | _ | _, _ | _ | _⟩ <;> rfl
theorem hm_or16 (h : Bx.H) : (h.hm + 1) ||| 16 = h.hm + 17 := by
  rcases h with ⟨_ | _ | _, _ | _ | _, _ | _ | _⟩ <;> rfl
theorem shm_eq {m : Nat} : Bx.shm m = (m &&& 119) * 2 := rfl
theorem shm_lt (m : Nat) : Bx.shm m < 256 := by
  have : m &&& 119 ≤ 119 := Nat.and_le_right
  unfold Bx.shm; omega
theorem enc_put {cs : Array Value} {p x0 y1 y2 y3 y4 : Nat} {out bs : List Nat} (hR : RdOk cs 0 (out ++ bs.drop p)) (hl : out.length = p) (hi : p + 5 ≤ bs.length) (hs : bs.length ≤ cs.size) (hx : bs.getD p 0 = x0) (h1 : y1 < 256) (h2 : y2 < 256) (h3 : y3 < 256) (h4 : y4 < 256) :
    RdOk ((((cs.setIfInBounds (p + 4) (vu8 y4)).setIfInBounds (p + 3) (vu8 y3)).setIfInBounds (p + 2) (vu8 y2)).setIfInBounds (p + 1) (vu8 y1)) 0 ((out ++ [x0, y1, y2, y3, y4]) ++ bs.drop (p + 5)) := by
  have hlen := Bx.cat_len (xs := bs) hl (by omega)
  subst hx
  have e : ((((out ++ bs.drop p).set (p + 4) y4).set (p + 3) y3).set (p + 2) y2).set (p + 1) y1 = (out ++ [bs.getD p 0, y1, y2, y3, y4]) ++ bs.drop (p + 5) := by
    rw [Bx.cat_set hl, Bx.cat_set hl, Bx.cat_set hl, Bx.cat_set hl, Bx.drop5 hi, List.append_assoc]
    rfl
  rw [← e]
  refine RdOk.set (RdOk.set (RdOk.set (RdOk.set hR ?_ ?_ h4 ?_) ?_ ?_ h3 ?_) ?_ ?_ h2 ?_) ?_ ?_ h1 ?_ <;> first | omega | (simp only [List.length_set, Array.size_setIfInBounds, hlen]; omega)
theorem win0 {cs : Array Value} {i j p : Nat} {out bs : List Nat} (hR : RdOk cs 0 (out ++ bs.drop i)) (hl : out.length = i) (hj : i + j < bs.length) (hp : p = i + j) {x : Nat} (hx : bs.getD (i + j) 0 = x) : cs[p]? = some (vu8 x) ∧ x < 256 := by
  subst hp hx
  have hlen := Bx.cat_len (xs := bs) hl (by omega)
  have h := hR (i + j) (by omega)
  rw [Bx.cat_get hl (by omega), Nat.zero_add] at h
  exact h
theorem le_or {x1 x2 x3 x4 : Nat} (h1 : x1 < 256) (h2 : x2 < 256) (h3 : x3 < 256) : (x1 ||| 256 * x2 = x1 + 256 * x2) ∧ ((x1 + 256 * x2) ||| 65536 * x3 = x1 + 256 * x2 + 65536 * x3) ∧ ((x1 + 256 * x2 + 65536 * x3) ||| 16777216 * x4 = Bx.le x1 x2 x3 x4) :=
  ⟨or_lo (k := 8) (a := x2) (by omega) (by omega), or_lo (k := 16) (a := x3) (by omega) (by omega), or_lo (k := 24) (a := x4) (by omega) (by omega)⟩
theorem le_lt5 {x1 x2 x3 x4 : Nat} (h0 : x1 < 256) (h1 : x2 < 256) (h2 : x3 < 256) (h3 : x4 < 256) : Bx.le x1 x2 x3 x4 < 4294967296 := by unfold Bx.le; omega
theorem enc1_lt (cur n s : Nat) : Bx.enc1 cur n s < 4294967296 := by
  unfold Bx.enc1
  dsimp only
  split <;> (try split) <;> omega
set_option maxRecDepth 100000 in
set_option maxHeartbeats 8000000 in
theorem x86_con (G : Gst) (bb ob bl bc : Nat) (ba : Option Addr) (hba : 0 < bl → ba = some ⟨bb, ob, none⟩ ∧ bl ≤ bc) (cs : Array Value) (Tb : TypeId) (fr : Nat × Nat) (bs : List Nat) (hb : RdOk cs ob bs) (hbl : bs.length = bl) (h3 : bl ≤ 3000) :
    Con Tryz.prog G 28 #[.slice ba bl bc] [blk bb (.cells cs Tb fr)] (fun x : Value => x) (fun x => [Row 5 x (u8s (Bx.enc 0 Bx.H.none bs)), blk bb (.cells cs Tb fr)]) := by
  have hby : Bx.Byte bs := hb.lt
  refine Con.intro Tryz.func28 rfl (by kernel_rfl) Tryz.ntmps28 (Nat.le_of_ble_eq_true rfl) ?_
  intro F
  show JC _ _ _ _ _ _ [(0, _)] _ [_, _]
  refine sR ?_
  refine oC ?_
  refine nC (sR ?_)
  refine JO.bslice Tryz.underlying22 elm5 Evs.nil rfl rfl (by first | (simp [Value.oneCell']; done) | (simp only [List.mem_cons, List.not_mem_nil, or_false, forall_eq]; assumption) | fail) (by decide) ?_; intro b14
  refine oM ?_
  refine JO.toRow (b := b14) (e := 5) (cur := #[]) (xs := u8s []) (m := 0) xpick rfl rfl (by decide) ?_
  refine JO.app Tryz.underlying22 elm5 xe xe xpick (Src.text rfl hba xpick hb hbl) (by simp [u8s]; omega) (by decide) ?_
  intro v16 ho16
  rw [show u8s [] ++ u8s bs = u8s bs from rfl]
  refine oA ?_
  refine nC (sR ?_)
  refine JO.py (Py.build bld78 (Pts.cons ev_const (Pts.cons ev_const (Pts.cons ev_const (Pts.cons ev_const (Pts.cons ev_const (Pts.cons ev_const (Pts.cons ev_const (Pts.cons ev_const Pts.nil)))))))) xfl) ?_
  refine JO.allocA zer78 ?_; intro b4
  refine JO.storeW siz78 xe xe (by first | rfl | (simp; done) | assumption | fail) (by first | (simp [Value.oneCell']; done) | assumption | fail) xpick (by first | rfl | (simp; done) | assumption | fail) ?_
  refine nC (sR ?_)
  refine JO.py (Py.build bld79 (Pts.cons ev_const (Pts.cons ev_const (Pts.cons ev_const (Pts.cons ev_const (Pts.cons ev_const (Pts.cons ev_const (Pts.cons ev_const (Pts.cons ev_const Pts.nil)))))))) xfl) ?_
  refine JO.allocA zer79 ?_; intro b5
  refine JO.storeW siz79 xe xe (by first | rfl | (simp; done) | assumption | fail) (by first | (simp [Value.oneCell']; done) | assumption | fail) xpick (by first | rfl | (simp; done) | assumption | fail) ?_
  refine nC (sR ?_)
  refine oC ?_
  refine oC ?_
  refine nC (JC.seq (sR ?_))
  refine oC ?_
  refine nC (JC.block ?_)
  refine JC.as (A := cel b4 78 _) (A' := cel b4 78 al8) xpick (by rfl) ?_
  refine JC.as (A := cel b5 79 _) (A' := cel b5 79 nm8) xpick (by rfl) ?_
  rcases Nat.eq_zero_or_pos bl with hz | hz
  · skip
    subst hz
    obtain rfl : bs = [] := List.eq_nil_of_length_eq_zero hbl
    have he : Bx.enc 0 Bx.H.none [] = [] := Bx.enc_short (by decide)
    rw [he]
    refine JC.rowV (e := 5) (v := v16) (xs := u8s []) xpick ?_
    rintro ra rc hv16 -
    rw [show (u8s []).length = 0 from rfl] at hv16
    subst hv16
    refine JC.unroll 0 ?_
    refine JC.seq (sR ?_)
    refine oM ?_
    refine JO.py (Py.add xe ev_const wI) ?_
    refine oM ?_
    refine JO.py (Py.lenS Tryz.underlying22 xe) ?_
    first | refine oD (Py.leq xe xe) ?_ | refine oU (Py.leq xe xe) ?_ | refine JO.py (Py.leq xe xe) ?_
    refine nC ?_
    refine cF ?_
    refine JC.exit (JX.exit (JX.exit (JX.blockE (JX.code (sR ?_)))))
    refine oM ?_
    refine oA ?_
    refine nC (JC.ret ?_)
    refine JX.end1 (Or.inl rfl) (_) Tryz.results28 ((xe).trans (by first | exact xval | (dsimp only; exact xval))) xpkE
  · skip
    refine JC.unrow (e := 5) (v := v16) (xs := u8s bs) xpick (by intro h; have := congrArg List.length h; rw [u8s_len, hbl] at this; exact absurd this (by show ¬ bl = 0; omega)) ?_
    rintro rb rc rcur rfl hrr
    rw [u8s_len, hbl]
    have hr0 := hrr.rd hby
    have hrs := hrr.size
    have hrle := hrr.le
    have hrlt := hrr.lt
    rw [u8s_len, hbl] at hrle
    refine JC.loop (ι := Nat × Bx.H × Nat × Nat × List Nat × Array Value) (fun x => Bx.EncP bs x.1 x.2.1 x.2.2.2.2.1 ∧ RdOk x.2.2.2.2.2 0 (x.2.2.2.2.1 ++ bs.drop x.1) ∧ x.2.2.2.2.2.size = rc ∧ x.2.2.1 < 256 ∧ x.2.2.2.1 < x.1 + 5 + 1 ∧ Bx.shn (x.1 + 5 - x.2.2.2.1) x.2.2.1 = x.2.1.hm) (fun x => [(3, .slice (some ⟨rb, 0, none⟩) bl rc), (4, .pointer (some ⟨b4, 0, none⟩)), (5, .pointer (some ⟨b5, 0, none⟩)), (6, .int .u32 (x.2.2.1 : Nat)), (7, .int .i64 ((x.2.2.2.1 : Nat) - 5)), (8, .int .i64 (x.1 : Nat))]) (fun x => [cel b4 78 al8, cel b5 79 nm8, cel rb 5 x.2.2.2.2.2, blk bb (.cells cs Tb fr), F]) (fun x => bl - x.1) (0, Bx.H.none, 0, 0, [], rcur) ⟨Bx.EncP.zero, by simpa using hr0, hrs, by simp, by simp, by show Bx.shn 5 0 = 0; exact Bx.shn_zero 5⟩ xag xpkE ?_
    rintro ⟨pos, h, mask, la, out, cur⟩ base' ⟨hE, hR, hz2, hm, hla, hsh⟩
    dsimp only at hE hR hz2 hm hla hsh ⊢
    have hle := hE.le
    have hlen := hE.len
    by_cases hp : pos + 5 ≤ bl
    · skip
      have h5 : pos + 5 ≤ bs.length := by omega
      obtain ⟨x0, e0⟩ : ∃ x, bs.getD pos 0 = x := ⟨_, rfl⟩
      obtain ⟨x1, e1⟩ : ∃ x, bs.getD (pos + 1) 0 = x := ⟨_, rfl⟩
      obtain ⟨x2, e2⟩ : ∃ x, bs.getD (pos + 2) 0 = x := ⟨_, rfl⟩
      obtain ⟨x3, e3⟩ : ∃ x, bs.getD (pos + 3) 0 = x := ⟨_, rfl⟩
      obtain ⟨x4, e4⟩ : ∃ x, bs.getD (pos + 4) 0 = x := ⟨_, rfl⟩
      obtain ⟨c0, l0⟩ := win0 (p := pos) (j := 0) hR hlen (by omega) rfl e0
      obtain ⟨c1, l1⟩ := win0 (p := pos + 1) hR hlen (by omega) rfl e1
      obtain ⟨c2, l2⟩ := win0 (p := pos + 2) hR hlen (by omega) rfl e2
      obtain ⟨c3, l3⟩ := win0 (p := pos + 3) hR hlen (by omega) rfl e3
      obtain ⟨c4, l4⟩ := win0 (p := pos + 4) hR hlen (by omega) rfl e4
      refine JC.seq (sR ?_)
      refine oM ?_
      refine JO.py (Py.add xe ev_const wI) ?_
      refine oM ?_
      refine JO.py (Py.lenS Tryz.underlying22 xe) ?_
      first | refine oD (Py.leq xe xe) ?_ | refine oU (Py.leq xe xe) ?_ | refine JO.py (Py.leq xe xe) ?_
      refine nC ?_
      refine cT ?_
      refine JC.skip (JX.code (JC.block (JC.seq (JC.seq ?_))))
      refine JC.mid (ι := Unit) (fun _ => [(35, .bool (!Bx.op x0)), (3, .slice (some ⟨rb, 0, none⟩) bl rc), (4, .pointer (some ⟨b4, 0, none⟩)), (5, .pointer (some ⟨b5, 0, none⟩)), (6, .int .u32 (mask : Nat)), (7, .int .i64 ((la : Nat) - 5)), (8, .int .i64 (pos : Nat))]) (fun _ => [cel b4 78 al8, cel b5 79 nm8, cel rb 5 cur, blk bb (.cells cs Tb fr), F]) ?_ ?_
      · skip
        by_cases q1 : x0 = 232
        · skip
          have hop : Bx.op x0 = true := by unfold Bx.op; simp [q1]
          rw [hop]
          refine JC.region ?_
          refine oM ?_
          refine oM ?_
          refine JO.py (Py.idxS Tryz.underlying22 siz5 xe xe (by omega) xidx xmult) ?_
          refine JO.py (Py.load scal5 xe xpick xrow) ?_
          first | refine oD (Py.neq xe ev_const) ?_ | refine oU (Py.neq xe ev_const) ?_ | refine JO.py (Py.neq xe ev_const) ?_
          refine oM ?_
          first | (refine gT ?_; (refine oM ?_)) | refine kF ?_ | refine JO.skipU rfl (Lk.ev (v := undef) xlk rfl) ?_
          first | (refine gT ?_; (refine oM ?_)) | refine kF ?_ | refine JO.skipU rfl (Lk.ev (v := undef) xlk rfl) ?_
          first | (refine gT ?_; (refine JO.py (Py.idxS Tryz.underlying22 siz5 xe xe (by omega) xidx xmult) ?_)) | refine kF ?_ | refine JO.skipU rfl (Lk.ev (v := undef) xlk rfl) ?_
          first | (refine gT ?_; (refine JO.py (Py.load scal5 xe xpick xrow) ?_)) | refine kF ?_ | refine JO.skipU rfl (Lk.ev (v := undef) xlk rfl) ?_
          first | (refine gT ?_; (first | refine oD (Py.neq xe ev_const) ?_ | refine oU (Py.neq xe ev_const) ?_ | refine JO.py (Py.neq xe ev_const) ?_)) | refine kF ?_ | refine JO.skipU rfl (Lk.ev (v := undef) xlk rfl) ?_
          first | refine JO.py (Py.pickT xe xe) ?_ | refine JO.py (Py.pickF xe ev_const) ?_
          refine JO.nil ?_
          refine JX.cut () xag xpkE rfl
        · skip
          by_cases q2 : x0 = 233
          · skip
            have hop : Bx.op x0 = true := by unfold Bx.op; simp [q2]
            rw [hop]
            refine JC.region ?_
            refine oM ?_
            refine oM ?_
            refine JO.py (Py.idxS Tryz.underlying22 siz5 xe xe (by omega) xidx xmult) ?_
            refine JO.py (Py.load scal5 xe xpick xrow) ?_
            first | refine oD (Py.neq xe ev_const) ?_ | refine oU (Py.neq xe ev_const) ?_ | refine JO.py (Py.neq xe ev_const) ?_
            refine oM ?_
            first | (refine gT ?_; (refine oM ?_)) | refine kF ?_ | refine JO.skipU rfl (Lk.ev (v := undef) xlk rfl) ?_
            first | (refine gT ?_; (refine oM ?_)) | refine kF ?_ | refine JO.skipU rfl (Lk.ev (v := undef) xlk rfl) ?_
            first | (refine gT ?_; (refine JO.py (Py.idxS Tryz.underlying22 siz5 xe xe (by omega) xidx xmult) ?_)) | refine kF ?_ | refine JO.skipU rfl (Lk.ev (v := undef) xlk rfl) ?_
            first | (refine gT ?_; (refine JO.py (Py.load scal5 xe xpick xrow) ?_)) | refine kF ?_ | refine JO.skipU rfl (Lk.ev (v := undef) xlk rfl) ?_
            first | (refine gT ?_; (first | refine oD (Py.neq xe ev_const) ?_ | refine oU (Py.neq xe ev_const) ?_ | refine JO.py (Py.neq xe ev_const) ?_)) | refine kF ?_ | refine JO.skipU rfl (Lk.ev (v := undef) xlk rfl) ?_
            first | refine JO.py (Py.pickT xe xe) ?_ | refine JO.py (Py.pickF xe ev_const) ?_
            refine JO.nil ?_
            refine JX.cut () xag xpkE rfl
          · skip
            have hop : Bx.op x0 = false := by unfold Bx.op; simp [q1, q2]
            rw [hop]
            refine JC.region ?_
            refine oM ?_
            refine oM ?_
            refine JO.py (Py.idxS Tryz.underlying22 siz5 xe xe (by omega) xidx xmult) ?_
            refine JO.py (Py.load scal5 xe xpick xrow) ?_
            first | refine oD (Py.neq xe ev_const) ?_ | refine oU (Py.neq xe ev_const) ?_ | refine JO.py (Py.neq xe ev_const) ?_
            refine oM ?_
            first | (refine gT ?_; (refine oM ?_)) | refine kF ?_ | refine JO.skipU rfl (Lk.ev (v := undef) xlk rfl) ?_
            first | (refine gT ?_; (refine oM ?_)) | refine kF ?_ | refine JO.skipU rfl (Lk.ev (v := undef) xlk rfl) ?_
            first | (refine gT ?_; (refine JO.py (Py.idxS Tryz.underlying22 siz5 xe xe (by omega) xidx xmult) ?_)) | refine kF ?_ | refine JO.skipU rfl (Lk.ev (v := undef) xlk rfl) ?_
            first | (refine gT ?_; (refine JO.py (Py.load scal5 xe xpick xrow) ?_)) | refine kF ?_ | refine JO.skipU rfl (Lk.ev (v := undef) xlk rfl) ?_
            first | (refine gT ?_; (first | refine oD (Py.neq xe ev_const) ?_ | refine oU (Py.neq xe ev_const) ?_ | refine JO.py (Py.neq xe ev_const) ?_)) | refine kF ?_ | refine JO.skipU rfl (Lk.ev (v := undef) xlk rfl) ?_
            first | refine JO.py (Py.pickT xe xe) ?_ | refine JO.py (Py.pickF xe ev_const) ?_
            refine JO.nil ?_
            refine JX.cut () xag xpkE rfl
      rintro _ base2
      try dsimp only
      refine JX.code ?_
      cases hop : Bx.op x0
      · skip
        rw [show (!false) = true from rfl]
        refine cT ?_
        refine sR ?_
        refine oM ?_
        refine JO.py (Py.add xe ev_const wI) ?_
        refine oA ?_
        refine nC (JC.exit (JX.exit (JX.blockE ?_)))
        refine JX.loop (pos + 1, h.next .none, mask, la, out ++ [x0], cur) ⟨by dsimp only; rw [← e0]; exact hE.nop h5 (by rw [e0]; exact hop), by dsimp only; rw [← e0, Bx.cat_next (by omega)]; exact hR, hz2, hm, by dsimp only; omega, by dsimp only; rw [show pos + 1 + 5 - la = (pos + 5 - la) + 1 by omega, Bx.shn_succ, hsh, Bx.hm_next]⟩ (by dsimp only; omega) xag xpkE
      · skip
        rw [show (!true) = false from rfl]
        refine cF ?_
        refine JC.skip (JX.code (sR ?_))
        refine oM ?_
        refine oM ?_
        refine JO.py (Py.sub xe xe wI) ?_
        refine oA ?_
        refine nC (sR ?_)
        refine oM ?_
        refine oA ?_
        refine nC (JC.seq (sR ?_))
        refine oM ?_
        first | refine oD (Py.gtr xe ev_const) ?_ | refine oU (Py.gtr xe ev_const) ?_ | refine JO.py (Py.gtr xe ev_const) ?_
        refine nC ?_
        obtain ⟨d, hd⟩ : ∃ d, pos + 5 - la = d := ⟨_, rfl⟩
        rw [hd] at hsh
        refine JC.mid (ι := Unit) (fun _ => [(3, .slice (some ⟨rb, 0, none⟩) bl rc), (4, .pointer (some ⟨b4, 0, none⟩)), (5, .pointer (some ⟨b5, 0, none⟩)), (6, .int .u32 (h.hm : Nat)), (7, .int .i64 (pos : Nat)), (8, .int .i64 (pos : Nat))]) (fun _ => [cel b4 78 al8, cel b5 79 nm8, cel rb 5 cur, blk bb (.cells cs Tb fr), F]) ?_ ?_
        · skip
          by_cases hd5 : 5 < d
          · skip
            have h0 : h.hm = 0 := by rw [← hsh]; exact Bx.shn_far hm (by omega)
            rw [h0]
            refine cT ?_
            refine JC.region ?_
            refine oC ?_
            refine JO.nil ?_
            refine JX.cut () xag xpkE rfl
          · skip
            refine cF ?_
            refine sR ?_
            refine oM ?_
            refine JO.py (Py.move ev_const) ?_
            refine nC (JC.block ?_)
            refine JC.loop (ι := Nat × Nat) (fun x => x.1 ≤ d ∧ x.2 < 256 ∧ Bx.shn (d - x.1) x.2 = h.hm) (fun x => [(3, .slice (some ⟨rb, 0, none⟩) bl rc), (4, .pointer (some ⟨b4, 0, none⟩)), (5, .pointer (some ⟨b5, 0, none⟩)), (6, .int .u32 (x.2 : Nat)), (7, .int .i64 (pos : Nat)), (8, .int .i64 (pos : Nat)), (44, .int .i64 (d : Nat)), (45, .int .i64 (x.1 : Nat))]) (fun _ => [cel b4 78 al8, cel b5 79 nm8, cel rb 5 cur, blk bb (.cells cs Tb fr), F]) (fun x => d - x.1) (0, mask) ⟨Nat.zero_le _, hm, hsh⟩ xag xpkE ?_
            rintro ⟨k, mk⟩ base3 ⟨hk, hmk, hsk⟩
            dsimp only at hk hmk hsk ⊢
            by_cases hkd : k < d
            · skip
              have hsl := shm_lt mk
              obtain ⟨m2, hm2⟩ : ∃ y, Bx.shm mk = y := ⟨_, rfl⟩
              obtain ⟨a2, ha2⟩ : ∃ y, mk &&& 119 = y := ⟨_, rfl⟩
              have hma : a2 * 2 = m2 := by rw [← ha2, ← hm2]; rfl
              rw [hm2] at hsl
              refine sR ?_
              first | refine oD (Py.lss xe xe) ?_ | refine oU (Py.lss xe xe) ?_ | refine JO.py (Py.lss xe xe) ?_
              refine nC (JC.seq ?_)
              refine cT ?_
              refine JC.skip (JX.code (JC.seq (JC.block (JC.region ?_))))
              refine oM ?_
              refine JO.py (Py.to (Py.andN xe ev_const (r_u32 (by omega)) (r_u32 (by omega)) (by decide)) (v' := .int .u32 (a2 : Nat)) (vint (by rw [← ha2]; rfl))) ?_
              first | refine JO.py (Py.shl 1 2 xe ev_const rfl (by decide) (by decide) (w_u32 (by omega))) ?_ | refine JO.py (Py.shl 1 2 xe ev_const rfl (by decide) (by decide) (m_u32 _)) ?_
              refine oA ?_
              refine JO.nil (JX.blockN (JX.code (JC.region ?_)))
              refine JO.py (Py.add xe ev_const wI) ?_
              refine oM ?_
              refine JO.nil ?_
              refine JX.loop (k + 1, m2) ⟨by dsimp only; omega, hsl, by dsimp only; rw [← hm2]; rw [show d - k = (d - (k + 1)) + 1 by omega] at hsk; exact hsk⟩ (by dsimp only; omega) xag xpkE
            · skip
              obtain rfl : k = d := by omega
              rw [Nat.sub_self] at hsk
              obtain rfl : mk = h.hm := hsk
              refine sR ?_
              first | refine oD (Py.lss xe xe) ?_ | refine oU (Py.lss xe xe) ?_ | refine JO.py (Py.lss xe xe) ?_
              refine nC (JC.seq ?_)
              refine cF ?_
              refine JC.exit (JX.exit (JX.exit (JX.blockE ?_)))
              refine JX.cut () xag xpkE rfl
        rintro _ base3
        try dsimp only
        refine JX.code (sR ?_)
        refine oM ?_
        refine oM ?_
        refine JO.py (Py.add xe ev_const wI) ?_
        refine JO.py (Py.idxS (j := pos + 4) Tryz.underlying22 siz5 xe xe (by omega) (by omega) xmult) ?_
        refine JO.py (Py.load scal5 xe xpick xrow) ?_
        refine oA ?_
        refine nC (JC.seq (JC.seq ?_))
        have hml := Bx.hm_lt h
        refine JC.mid (ι := Unit) (fun _ => [(71, .bool (!(Bx.far x4 && decide (h.n < 4)))), (10, vu8 x4), (3, .slice (some ⟨rb, 0, none⟩) bl rc), (4, .pointer (some ⟨b4, 0, none⟩)), (5, .pointer (some ⟨b5, 0, none⟩)), (6, .int .u32 (h.hm : Nat)), (7, .int .i64 (pos : Nat)), (8, .int .i64 (pos : Nat))]) (fun _ => [cel b4 78 al8, cel b5 79 nm8, cel rb 5 cur, blk bb (.cells cs Tb fr), F]) ?_ ?_
        · skip
          refine JC.region ?_
          refine oM ?_
          refine JO.call (Evs.cons xe Evs.nil) (far_con G x4) xpkE ?_
          rintro _
          show JO _ _ _ _ _ _ _ ((57, _) :: _) _ (_ :: _)
          cases hf4 : Bx.far x4
          · skip
            refine JO.py (Py.not xe (by first | with_reducible exact not_t | with_reducible exact not_f | exact rfl)) ?_
            refine oM ?_
            first | (refine gF ?_; (refine oM ?_)) | refine kT ?_ | refine JO.skipU rfl (Lk.ev (v := undef) xlk rfl) ?_
            first | (refine gF ?_; (refine JO.py (Py.shr 1 2 xe ev_const rfl (by decide) (by decide) (by decide)) ?_)) | refine kT ?_ | refine JO.skipU rfl (Lk.ev (v := undef) xlk rfl) ?_
            first | (refine gF ?_; (refine JO.py (Py.mask 3 8 xe ev_const (by decide) (by decide) (by decide) (r_u32 (by omega)) (w_u32 (by omega))) ?_)) | refine kT ?_ | refine JO.skipU rfl (Lk.ev (v := undef) xlk rfl) ?_
            first | (refine gF ?_; (refine JO.py (Py.idxA Tryz.underlying78 siz4 xe xe (by omega) xidx xmult) ?_)) | refine kT ?_ | refine JO.skipU rfl (Lk.ev (v := undef) xlk rfl) ?_
            first | (refine gF ?_; (refine JO.py (Py.load scal4 xe xpick xrow) ?_)) | refine kT ?_ | refine JO.skipU rfl (Lk.ev (v := undef) xlk rfl) ?_
            first | (refine gF ?_; (refine JO.py (Py.not xe (by first | with_reducible exact not_t | with_reducible exact not_f | exact rfl)) ?_)) | refine kT ?_ | refine JO.skipU rfl (Lk.ev (v := undef) xlk rfl) ?_
            first | refine JO.py (Py.pickT xe ev_const) ?_ | refine JO.py (Py.pickF xe xe) ?_
            refine oM ?_
            first | (refine gF ?_; (refine oM ?_)) | refine kT ?_ | refine JO.skipU rfl (Lk.ev (v := undef) xlk rfl) ?_
            first | (refine gF ?_; (refine JO.py (Py.shr 1 2 xe ev_const rfl (by decide) (by decide) (by decide)) ?_)) | refine kT ?_ | refine JO.skipU rfl (Lk.ev (v := undef) xlk rfl) ?_
            first | (refine gF ?_; (first | refine oD (Py.geq xe ev_const) ?_ | refine oU (Py.geq xe ev_const) ?_ | refine JO.py (Py.geq xe ev_const) ?_)) | refine kT ?_ | refine JO.skipU rfl (Lk.ev (v := undef) xlk rfl) ?_
            first | refine JO.py (Py.pickT xe ev_const) ?_ | refine JO.py (Py.pickF xe xe) ?_
            refine JO.nil ?_
            refine JX.cut () xag xpkE rfl
          · skip
            obtain ⟨j, hj⟩ : ∃ j, h.hm / 2 % 8 = j := ⟨_, rfl⟩
            have hj8 : j < 8 := by omega
            have hjs : j < al8.size := hj8
            rcases Bx.hm_n h with ⟨hn, hh⟩ | ⟨hn, hh⟩ | ⟨hn, hh⟩ | ⟨hn, hh⟩ | ⟨hn, hh⟩
            · skip
              have hal : al8[0]? = some (.bool true) := rfl
              rw [hn, hh]
              refine JO.py (Py.not xe (by first | with_reducible exact not_t | with_reducible exact not_f | exact rfl)) ?_
              refine oM ?_
              first | (refine gF ?_; (refine oM ?_)) | refine kT ?_ | refine JO.skipU rfl (Lk.ev (v := undef) xlk rfl) ?_
              first | (refine gF ?_; (refine JO.py (Py.shr 1 2 xe ev_const rfl (by decide) (by decide) (by decide)) ?_)) | refine kT ?_ | refine JO.skipU rfl (Lk.ev (v := undef) xlk rfl) ?_
              first | (refine gF ?_; (refine JO.py (Py.mask 3 8 xe ev_const (by decide) (by decide) (by decide) (r_u32 (by omega)) (w_u32 (by omega))) ?_)) | refine kT ?_ | refine JO.skipU rfl (Lk.ev (v := undef) xlk rfl) ?_
              refine gF ?_
              refine JO.py (Py.idxA (j := 0) Tryz.underlying78 siz4 xe xe (by omega) (by omega) xmult) ?_
              first | (refine gF ?_; (refine JO.py (Py.load scal4 xe xpick xrow) ?_)) | refine kT ?_ | refine JO.skipU rfl (Lk.ev (v := undef) xlk rfl) ?_
              first | (refine gF ?_; (refine JO.py (Py.not xe (by first | with_reducible exact not_t | with_reducible exact not_f | exact rfl)) ?_)) | refine kT ?_ | refine JO.skipU rfl (Lk.ev (v := undef) xlk rfl) ?_
              first | refine JO.py (Py.pickT xe ev_const) ?_ | refine JO.py (Py.pickF xe xe) ?_
              refine oM ?_
              first | (refine gF ?_; (refine oM ?_)) | refine kT ?_ | refine JO.skipU rfl (Lk.ev (v := undef) xlk rfl) ?_
              first | (refine gF ?_; (refine JO.py (Py.shr 1 2 xe ev_const rfl (by decide) (by decide) (by decide)) ?_)) | refine kT ?_ | refine JO.skipU rfl (Lk.ev (v := undef) xlk rfl) ?_
              first | (refine gF ?_; (first | refine oD (Py.geq xe ev_const) ?_ | refine oU (Py.geq xe ev_const) ?_ | refine JO.py (Py.geq xe ev_const) ?_)) | refine kT ?_ | refine JO.skipU rfl (Lk.ev (v := undef) xlk rfl) ?_
              first | refine JO.py (Py.pickT xe ev_const) ?_ | refine JO.py (Py.pickF xe xe) ?_
              refine JO.nil ?_
              refine JX.cut () xag xpkE rfl
            · skip
              have hal : al8[1]? = some (.bool true) := rfl
              rw [hn, hh]
              refine JO.py (Py.not xe (by first | with_reducible exact not_t | with_reducible exact not_f | exact rfl)) ?_
              refine oM ?_
              first | (refine gF ?_; (refine oM ?_)) | refine kT ?_ | refine JO.skipU rfl (Lk.ev (v := undef) xlk rfl) ?_
              first | (refine gF ?_; (refine JO.py (Py.shr 1 2 xe ev_const rfl (by decide) (by decide) (by decide)) ?_)) | refine kT ?_ | refine JO.skipU rfl (Lk.ev (v := undef) xlk rfl) ?_
              first | (refine gF ?_; (refine JO.py (Py.mask 3 8 xe ev_const (by decide) (by decide) (by decide) (r_u32 (by omega)) (w_u32 (by omega))) ?_)) | refine kT ?_ | refine JO.skipU rfl (Lk.ev (v := undef) xlk rfl) ?_
              refine gF ?_
              refine JO.py (Py.idxA (j := 1) Tryz.underlying78 siz4 xe xe (by omega) (by omega) xmult) ?_
              first | (refine gF ?_; (refine JO.py (Py.load scal4 xe xpick xrow) ?_)) | refine kT ?_ | refine JO.skipU rfl (Lk.ev (v := undef) xlk rfl) ?_
              first | (refine gF ?_; (refine JO.py (Py.not xe (by first | with_reducible exact not_t | with_reducible exact not_f | exact rfl)) ?_)) | refine kT ?_ | refine JO.skipU rfl (Lk.ev (v := undef) xlk rfl) ?_
              first | refine JO.py (Py.pickT xe ev_const) ?_ | refine JO.py (Py.pickF xe xe) ?_
              refine oM ?_
              first | (refine gF ?_; (refine oM ?_)) | refine kT ?_ | refine JO.skipU rfl (Lk.ev (v := undef) xlk rfl) ?_
              first | (refine gF ?_; (refine JO.py (Py.shr 1 2 xe ev_const rfl (by decide) (by decide) (by decide)) ?_)) | refine kT ?_ | refine JO.skipU rfl (Lk.ev (v := undef) xlk rfl) ?_
              first | (refine gF ?_; (first | refine oD (Py.geq xe ev_const) ?_ | refine oU (Py.geq xe ev_const) ?_ | refine JO.py (Py.geq xe ev_const) ?_)) | refine kT ?_ | refine JO.skipU rfl (Lk.ev (v := undef) xlk rfl) ?_
              first | refine JO.py (Py.pickT xe ev_const) ?_ | refine JO.py (Py.pickF xe xe) ?_
              refine JO.nil ?_
              refine JX.cut () xag xpkE rfl
            · skip
              have hal : al8[2]? = some (.bool true) := rfl
              rw [hn, hh]
              refine JO.py (Py.not xe (by first | with_reducible exact not_t | with_reducible exact not_f | exact rfl)) ?_
              refine oM ?_
              first | (refine gF ?_; (refine oM ?_)) | refine kT ?_ | refine JO.skipU rfl (Lk.ev (v := undef) xlk rfl) ?_
              first | (refine gF ?_; (refine JO.py (Py.shr 1 2 xe ev_const rfl (by decide) (by decide) (by decide)) ?_)) | refine kT ?_ | refine JO.skipU rfl (Lk.ev (v := undef) xlk rfl) ?_
              first | (refine gF ?_; (refine JO.py (Py.mask 3 8 xe ev_const (by decide) (by decide) (by decide) (r_u32 (by omega)) (w_u32 (by omega))) ?_)) | refine kT ?_ | refine JO.skipU rfl (Lk.ev (v := undef) xlk rfl) ?_
              refine gF ?_
              refine JO.py (Py.idxA (j := 2) Tryz.underlying78 siz4 xe xe (by omega) (by omega) xmult) ?_
              first | (refine gF ?_; (refine JO.py (Py.load scal4 xe xpick xrow) ?_)) | refine kT ?_ | refine JO.skipU rfl (Lk.ev (v := undef) xlk rfl) ?_
              first | (refine gF ?_; (refine JO.py (Py.not xe (by first | with_reducible exact not_t | with_reducible exact not_f | exact rfl)) ?_)) | refine kT ?_ | refine JO.skipU rfl (Lk.ev (v := undef) xlk rfl) ?_
              first | refine JO.py (Py.pickT xe ev_const) ?_ | refine JO.py (Py.pickF xe xe) ?_
              refine oM ?_
              first | (refine gF ?_; (refine oM ?_)) | refine kT ?_ | refine JO.skipU rfl (Lk.ev (v := undef) xlk rfl) ?_
              first | (refine gF ?_; (refine JO.py (Py.shr 1 2 xe ev_const rfl (by decide) (by decide) (by decide)) ?_)) | refine kT ?_ | refine JO.skipU rfl (Lk.ev (v := undef) xlk rfl) ?_
              first | (refine gF ?_; (first | refine oD (Py.geq xe ev_const) ?_ | refine oU (Py.geq xe ev_const) ?_ | refine JO.py (Py.geq xe ev_const) ?_)) | refine kT ?_ | refine JO.skipU rfl (Lk.ev (v := undef) xlk rfl) ?_
              first | refine JO.py (Py.pickT xe ev_const) ?_ | refine JO.py (Py.pickF xe xe) ?_
              refine JO.nil ?_
              refine JX.cut () xag xpkE rfl
            · skip
              have hal : al8[4]? = some (.bool true) := rfl
              rw [hn, hh]
              refine JO.py (Py.not xe (by first | with_reducible exact not_t | with_reducible exact not_f | exact rfl)) ?_
              refine oM ?_
              first | (refine gF ?_; (refine oM ?_)) | refine kT ?_ | refine JO.skipU rfl (Lk.ev (v := undef) xlk rfl) ?_
              first | (refine gF ?_; (refine JO.py (Py.shr 1 2 xe ev_const rfl (by decide) (by decide) (by decide)) ?_)) | refine kT ?_ | refine JO.skipU rfl (Lk.ev (v := undef) xlk rfl) ?_
              first | (refine gF ?_; (refine JO.py (Py.mask 3 8 xe ev_const (by decide) (by decide) (by decide) (r_u32 (by omega)) (w_u32 (by omega))) ?_)) | refine kT ?_ | refine JO.skipU rfl (Lk.ev (v := undef) xlk rfl) ?_
              refine gF ?_
              refine JO.py (Py.idxA (j := 4) Tryz.underlying78 siz4 xe xe (by omega) (by omega) xmult) ?_
              first | (refine gF ?_; (refine JO.py (Py.load scal4 xe xpick xrow) ?_)) | refine kT ?_ | refine JO.skipU rfl (Lk.ev (v := undef) xlk rfl) ?_
              first | (refine gF ?_; (refine JO.py (Py.not xe (by first | with_reducible exact not_t | with_reducible exact not_f | exact rfl)) ?_)) | refine kT ?_ | refine JO.skipU rfl (Lk.ev (v := undef) xlk rfl) ?_
              first | refine JO.py (Py.pickT xe ev_const) ?_ | refine JO.py (Py.pickF xe xe) ?_
              refine oM ?_
              first | (refine gF ?_; (refine oM ?_)) | refine kT ?_ | refine JO.skipU rfl (Lk.ev (v := undef) xlk rfl) ?_
              first | (refine gF ?_; (refine JO.py (Py.shr 1 2 xe ev_const rfl (by decide) (by decide) (by decide)) ?_)) | refine kT ?_ | refine JO.skipU rfl (Lk.ev (v := undef) xlk rfl) ?_
              first | (refine gF ?_; (first | refine oD (Py.geq xe ev_const) ?_ | refine oU (Py.geq xe ev_const) ?_ | refine JO.py (Py.geq xe ev_const) ?_)) | refine kT ?_ | refine JO.skipU rfl (Lk.ev (v := undef) xlk rfl) ?_
              first | refine JO.py (Py.pickT xe ev_const) ?_ | refine JO.py (Py.pickF xe xe) ?_
              refine JO.nil ?_
              refine JX.cut () xag xpkE rfl
            · skip
              rw [show (!(true && decide (h.n < 4))) = true by rw [decide_eq_false (by omega)]; rfl]
              by_cases hj3 : j = 3 ∨ 5 ≤ j
              · skip
                have hal := al_no hj8 hj3
                refine JO.py (Py.not xe (by first | with_reducible exact not_t | with_reducible exact not_f | exact rfl)) ?_
                refine oM ?_
                first | (refine gF ?_; (refine oM ?_)) | refine kT ?_ | refine JO.skipU rfl (Lk.ev (v := undef) xlk rfl) ?_
                first | (refine gF ?_; (refine JO.py (Py.shr 1 2 xe ev_const rfl (by decide) (by decide) (by decide)) ?_)) | refine kT ?_ | refine JO.skipU rfl (Lk.ev (v := undef) xlk rfl) ?_
                first | (refine gF ?_; (refine JO.py (Py.mask 3 8 xe ev_const (by decide) (by decide) (by decide) (r_u32 (by omega)) (w_u32 (by omega))) ?_)) | refine kT ?_ | refine JO.skipU rfl (Lk.ev (v := undef) xlk rfl) ?_
                refine gF ?_
                refine JO.py (Py.idxA (j := j) Tryz.underlying78 siz4 xe xe (by omega) (by omega) xmult) ?_
                first | (refine gF ?_; (refine JO.py (Py.load scal4 xe xpick xrow) ?_)) | refine kT ?_ | refine JO.skipU rfl (Lk.ev (v := undef) xlk rfl) ?_
                first | (refine gF ?_; (refine JO.py (Py.not xe (by first | with_reducible exact not_t | with_reducible exact not_f | exact rfl)) ?_)) | refine kT ?_ | refine JO.skipU rfl (Lk.ev (v := undef) xlk rfl) ?_
                first | refine JO.py (Py.pickT xe ev_const) ?_ | refine JO.py (Py.pickF xe xe) ?_
                refine oM ?_
                first | (refine gF ?_; (refine oM ?_)) | refine kT ?_ | refine JO.skipU rfl (Lk.ev (v := undef) xlk rfl) ?_
                first | (refine gF ?_; (refine JO.py (Py.shr 1 2 xe ev_const rfl (by decide) (by decide) (by decide)) ?_)) | refine kT ?_ | refine JO.skipU rfl (Lk.ev (v := undef) xlk rfl) ?_
                first | (refine gF ?_; (first | refine oD (Py.geq xe ev_const) ?_ | refine oU (Py.geq xe ev_const) ?_ | refine JO.py (Py.geq xe ev_const) ?_)) | refine kT ?_ | refine JO.skipU rfl (Lk.ev (v := undef) xlk rfl) ?_
                first | refine JO.py (Py.pickT xe ev_const) ?_ | refine JO.py (Py.pickF xe xe) ?_
                refine JO.nil ?_
                refine JX.cut () xag xpkE rfl
              · skip
                have hal := al_yes hj8 hj3
                refine JO.py (Py.not xe (by first | with_reducible exact not_t | with_reducible exact not_f | exact rfl)) ?_
                refine oM ?_
                first | (refine gF ?_; (refine oM ?_)) | refine kT ?_ | refine JO.skipU rfl (Lk.ev (v := undef) xlk rfl) ?_
                first | (refine gF ?_; (refine JO.py (Py.shr 1 2 xe ev_const rfl (by decide) (by decide) (by decide)) ?_)) | refine kT ?_ | refine JO.skipU rfl (Lk.ev (v := undef) xlk rfl) ?_
                first | (refine gF ?_; (refine JO.py (Py.mask 3 8 xe ev_const (by decide) (by decide) (by decide) (r_u32 (by omega)) (w_u32 (by omega))) ?_)) | refine kT ?_ | refine JO.skipU rfl (Lk.ev (v := undef) xlk rfl) ?_
                refine gF ?_
                refine JO.py (Py.idxA (j := j) Tryz.underlying78 siz4 xe xe (by omega) (by omega) xmult) ?_
                first | (refine gF ?_; (refine JO.py (Py.load scal4 xe xpick xrow) ?_)) | refine kT ?_ | refine JO.skipU rfl (Lk.ev (v := undef) xlk rfl) ?_
                first | (refine gF ?_; (refine JO.py (Py.not xe (by first | with_reducible exact not_t | with_reducible exact not_f | exact rfl)) ?_)) | refine kT ?_ | refine JO.skipU rfl (Lk.ev (v := undef) xlk rfl) ?_
                first | refine JO.py (Py.pickT xe ev_const) ?_ | refine JO.py (Py.pickF xe xe) ?_
                refine oM ?_
                first | (refine gF ?_; (refine oM ?_)) | refine kT ?_ | refine JO.skipU rfl (Lk.ev (v := undef) xlk rfl) ?_
                first | (refine gF ?_; (refine JO.py (Py.shr 1 2 xe ev_const rfl (by decide) (by decide) (by decide)) ?_)) | refine kT ?_ | refine JO.skipU rfl (Lk.ev (v := undef) xlk rfl) ?_
                first | (refine gF ?_; (first | refine oD (Py.geq xe ev_const) ?_ | refine oU (Py.geq xe ev_const) ?_ | refine JO.py (Py.geq xe ev_const) ?_)) | refine kT ?_ | refine JO.skipU rfl (Lk.ev (v := undef) xlk rfl) ?_
                first | refine JO.py (Py.pickT xe ev_const) ?_ | refine JO.py (Py.pickF xe xe) ?_
                refine JO.nil ?_
                refine JX.cut () xag xpkE rfl
        rintro _ base4
        try dsimp only
        refine JX.code ?_
        by_cases hcv : (Bx.far x4 && decide (h.n < 4)) = true
        · skip
          rw [hcv, show (!true) = false from rfl]
          simp only [Bool.and_eq_true, decide_eq_true_eq] at hcv
          obtain ⟨hf4, hn4⟩ := hcv
          refine cF ?_
          obtain ⟨w, hw⟩ : ∃ w, Bx.le x1 x2 x3 x4 = w := ⟨_, rfl⟩
          obtain ⟨o1, o2, o3⟩ := le_or (x4 := x4) l1 l2 l3
          have hwl := le_lt5 l1 l2 l3 l4
          rw [hw] at hwl o3
          obtain ⟨e, he⟩ : ∃ e, Bx.enc1 (pos + 5) h.n w = e := ⟨_, rfl⟩
          have hel := enc1_lt (pos + 5) h.n w
          rw [he] at hel
          have hE2 := hE.conv (e := e) h5 (by rw [e0]; exact hop) (by rw [e4]; exact hf4) hn4 (by rw [e1, e2, e3, e4, hw]; exact he)
          have hnear := hE.near hby h5 (by rw [e4]; exact hf4) hn4 (e := e) (by rw [e1, e2, e3, e4, hw]; exact he)
          rw [e0] at hE2
          refine JC.skip (JX.code (JC.seq ?_))
          refine JC.regionD mixed (by kernel_rfl) ?_
          refine JD.py (Py.move xe) ?_
          refine JD.py (Py.move xe) ?_
          refine JD.py (Py.add xe ev_const wI) ?_
          refine JD.py (Py.idxS (j := pos + 1) Tryz.underlying22 siz5 xe xe (by omega) (by omega) xmult) ?_
          refine JD.py (Py.load scal5 xe xpick xrow) ?_
          first | refine JD.py (Py.conv cnv5_45 xe (w_u32 (by omega))) ?_ | refine JD.py (Py.conv cnv5_45 xe (m_u32 _)) ?_
          refine JD.py (Py.move xe) ?_
          refine JD.py (Py.move xe) ?_
          refine JD.py (Py.add xe ev_const wI) ?_
          refine JD.py (Py.idxS (j := pos + 2) Tryz.underlying22 siz5 xe xe (by omega) (by omega) xmult) ?_
          refine JD.py (Py.load scal5 xe xpick xrow) ?_
          first | refine JD.py (Py.conv cnv5_45 xe (w_u32 (by omega))) ?_ | refine JD.py (Py.conv cnv5_45 xe (m_u32 _)) ?_
          first | refine JD.py (Py.shl 8 256 xe ev_const rfl (by decide) (by decide) (w_u32 (by omega))) ?_ | refine JD.py (Py.shl 8 256 xe ev_const rfl (by decide) (by decide) (m_u32 _)) ?_
          refine JD.py (Py.to (Py.orN xe xe (r_u32 (by omega)) (r_u32 (by omega)) (by decide)) (v' := .int .u32 (x1 + 256 * x2 : Nat)) (vint (or_int (x := x1) (y := 256 * x2) (by omega) (by omega) o1))) ?_
          refine JD.py (Py.move xe) ?_
          refine JD.py (Py.move xe) ?_
          refine JD.py (Py.add xe ev_const wI) ?_
          refine JD.py (Py.idxS (j := pos + 3) Tryz.underlying22 siz5 xe xe (by omega) (by omega) xmult) ?_
          refine JD.py (Py.load scal5 xe xpick xrow) ?_
          first | refine JD.py (Py.conv cnv5_45 xe (w_u32 (by omega))) ?_ | refine JD.py (Py.conv cnv5_45 xe (m_u32 _)) ?_
          first | refine JD.py (Py.shl 16 65536 xe ev_const rfl (by decide) (by decide) (w_u32 (by omega))) ?_ | refine JD.py (Py.shl 16 65536 xe ev_const rfl (by decide) (by decide) (m_u32 _)) ?_
          refine JD.py (Py.to (Py.orN xe xe (r_u32 (by omega)) (r_u32 (by omega)) (by decide)) (v' := .int .u32 (x1 + 256 * x2 + 65536 * x3 : Nat)) (vint (or_int (x := x1 + 256 * x2) (y := 65536 * x3) (by omega) (by omega) o2))) ?_
          refine JD.py (Py.move xe) ?_
          first | refine JD.py (Py.conv cnv5_45 xe (w_u32 (by omega))) ?_ | refine JD.py (Py.conv cnv5_45 xe (m_u32 _)) ?_
          first | refine JD.py (Py.shl 24 16777216 xe ev_const rfl (by decide) (by decide) (w_u32 (by omega))) ?_ | refine JD.py (Py.shl 24 16777216 xe ev_const rfl (by decide) (by decide) (m_u32 _)) ?_
          refine JD.py (Py.to (Py.orN xe xe (r_u32 (by omega)) (r_u32 (by omega)) (by decide)) (v' := .int .u32 (w : Nat)) (vint (or_int (x := x1 + 256 * x2 + 65536 * x3) (y := 16777216 * x4) (by omega) (by omega) o3))) ?_
          obtain ⟨d0, hd0⟩ : ∃ y, (w + (pos + 5)) % 4294967296 = y := ⟨_, rfl⟩
          have hd0l : d0 < 4294967296 := by omega
          refine JD.py (Py.assign xe) ?_
          refine JD.nilN (JX.code (sR ?_))
          refine oM ?_
          refine oM ?_
          first | refine JO.py (Py.conv cnv3_45 xe (w_u32 (by omega))) ?_ | refine JO.py (Py.conv cnv3_45 xe (m_u32 _)) ?_
          refine JO.py (Py.add xe xe (m_u32 _)) ?_
          refine JO.py (Py.to (Py.add xe ev_const (m_u32 _)) (v' := .int .u32 (d0 : Nat)) (vint (by omega))) ?_
          refine oA ?_
          refine nC (JC.seq ?_)
          refine JC.mid (ι := Unit) (fun _ => [(12, .int .u32 (e : Nat)), (3, .slice (some ⟨rb, 0, none⟩) bl rc), (4, .pointer (some ⟨b4, 0, none⟩)), (5, .pointer (some ⟨b5, 0, none⟩)), (7, .int .i64 (pos : Nat)), (8, .int .i64 (pos : Nat))]) (fun _ => [cel b4 78 al8, cel b5 79 nm8, cel rb 5 cur, blk bb (.cells cs Tb fr), F]) ?_ ?_
          · skip
            refine JC.block ?_
            rcases Bx.hm_n h with ⟨hn, hh⟩ | ⟨hn, hh⟩ | ⟨hn, hh⟩ | ⟨hn, hh⟩ | ⟨hn, hh⟩
            · skip
              rw [hn, Bx.enc1_0, hd0] at he
              subst he
              rw [hh]
              refine JC.unroll 0 ?_
              refine JC.seq (sR ?_)
              refine oM ?_
              first | refine oD (Py.neq xe ev_const) ?_ | refine oU (Py.neq xe ev_const) ?_ | refine JO.py (Py.neq xe ev_const) ?_
              refine nC ?_
              refine cF ?_
              refine JC.exit (JX.exit (JX.exit (JX.blockE ?_)))
              refine JX.cut () xag xpkE rfl
            · skip
              have hnm : nm8[1]? = some (.int .u64 1) := rfl
              have hne : Bx.far (e / 65536 % 256) = false := hnear.1 hn
              rw [hn, Bx.enc1_1, hd0] at he
              rw [hh]
              cases hff : Bx.far (d0 / 65536 % 256)
              · skip
                rw [hff, if_neg (by decide)] at he
                subst he
                refine JC.unroll 0 ?_
                refine JC.seq (sR ?_)
                refine oM ?_
                first | refine oD (Py.neq xe ev_const) ?_ | refine oU (Py.neq xe ev_const) ?_ | refine JO.py (Py.neq xe ev_const) ?_
                refine nC ?_
                refine cT ?_
                refine JC.skip (JX.code (JC.block (sR ?_)))
                refine oM ?_
                refine JO.py (Py.shr 1 2 xe ev_const rfl (by decide) (by decide) (by decide)) ?_
                refine JO.py (Py.idxA (j := 1) Tryz.underlying79 siz67 xe xe (by omega) (by omega) xmult) ?_
                refine JO.py (Py.load scal67 xe xpick xrow) ?_
                refine oA ?_
                refine nC (JC.seq (sR ?_))
                refine oM ?_
                refine oM ?_
                first | refine JO.py (Py.mul ev_const xe (w_u64 (by omega))) ?_ | refine JO.py (Py.mul ev_const xe (m_u64 _)) ?_
                first | refine JO.py (Py.sub ev_const xe (w_u64 (by omega))) ?_ | refine JO.py (Py.sub ev_const xe (m_u64 _)) ?_
                refine JO.py (Py.shrN 16 (a := d0) xe xe (by omega) (by decide)) ?_
                refine JO.py (Py.to (Py.conv cnv45_5 xe (m_u8 _)) (v' := vu8 (d0 / 65536 % 256)) (vint (by omega))) ?_
                refine JO.call (Evs.cons xe Evs.nil) (far_con G (d0 / 65536 % 256)) xpkE ?_
                rintro _
                show JO _ _ _ _ _ _ _ ((123, _) :: _) _ (_ :: _)
                rw [hff]
                refine JO.py (Py.not xe (by first | with_reducible exact not_t | with_reducible exact not_f | exact rfl)) ?_
                refine nC ?_
                refine cT ?_
                refine JC.exit (JX.exit (JX.blockO rfl (JX.exit (JX.blockE ?_))))
                refine JX.cut () xag xpkE rfl
              · skip
                rw [hff, if_pos rfl] at he
                obtain ⟨f, hfx⟩ : ∃ f, d0 ^^^ 16777215 = f := ⟨_, rfl⟩
                have hfl : Bx.fl 16777216 d0 = f := by rw [← hfx]; exact (Bx.fl_xor 24 d0).symm
                have hfb : f < 4294967296 := by rw [← hfx]; exact Nat.xor_lt_two_pow (n := 32) hd0l (by decide)
                rw [hfl] at he
                refine JC.unroll 1 ?_
                refine JC.seq (sR ?_)
                refine oM ?_
                first | refine oD (Py.neq xe ev_const) ?_ | refine oU (Py.neq xe ev_const) ?_ | refine JO.py (Py.neq xe ev_const) ?_
                refine nC ?_
                refine cT ?_
                refine JC.skip (JX.code (JC.block (sR ?_)))
                refine oM ?_
                refine JO.py (Py.shr 1 2 xe ev_const rfl (by decide) (by decide) (by decide)) ?_
                refine JO.py (Py.idxA (j := 1) Tryz.underlying79 siz67 xe xe (by omega) (by omega) xmult) ?_
                refine JO.py (Py.load scal67 xe xpick xrow) ?_
                refine oA ?_
                refine nC (JC.seq (sR ?_))
                refine oM ?_
                refine oM ?_
                first | refine JO.py (Py.mul ev_const xe (w_u64 (by omega))) ?_ | refine JO.py (Py.mul ev_const xe (m_u64 _)) ?_
                first | refine JO.py (Py.sub ev_const xe (w_u64 (by omega))) ?_ | refine JO.py (Py.sub ev_const xe (m_u64 _)) ?_
                refine JO.py (Py.shrN 16 (a := d0) xe xe (by omega) (by decide)) ?_
                refine JO.py (Py.to (Py.conv cnv45_5 xe (m_u8 _)) (v' := vu8 (d0 / 65536 % 256)) (vint (by omega))) ?_
                refine JO.call (Evs.cons xe Evs.nil) (far_con G (d0 / 65536 % 256)) xpkE ?_
                rintro _
                show JO _ _ _ _ _ _ _ ((123, _) :: _) _ (_ :: _)
                rw [hff]
                refine JO.py (Py.not xe (by first | with_reducible exact not_t | with_reducible exact not_f | exact rfl)) ?_
                refine nC ?_
                refine cF ?_
                refine JC.skip (JX.code (sR ?_))
                refine oM ?_
                refine oM ?_
                first | refine JO.py (Py.mul ev_const xe (w_u64 (by omega))) ?_ | refine JO.py (Py.mul ev_const xe (m_u64 _)) ?_
                first | refine JO.py (Py.sub ev_const xe (w_u64 (by omega))) ?_ | refine JO.py (Py.sub ev_const xe (m_u64 _)) ?_
                refine JO.py (Py.to (Py.shlN 24 ev_const xe (by omega) (by decide) (w_u32 (by decide))) (v' := .int .u32 16777216) (vint (by decide))) ?_
                first | refine JO.py (Py.sub xe ev_const (w_u32 (by omega))) ?_ | refine JO.py (Py.sub xe ev_const (m_u32 _)) ?_
                refine JO.py (Py.to (Py.xorN xe xe (r_u32 (by omega)) (r_u32 (by omega)) (by decide)) (v' := .int .u32 (f : Nat)) (vint (by rw [← hfx]; rfl))) ?_
                refine oA ?_
                refine nC (JC.region ?_)
                refine oM ?_
                refine oM ?_
                first | refine JO.py (Py.conv cnv3_45 xe (w_u32 (by omega))) ?_ | refine JO.py (Py.conv cnv3_45 xe (m_u32 _)) ?_
                refine JO.py (Py.add xe xe (m_u32 _)) ?_
                refine JO.py (Py.to (Py.add xe ev_const (m_u32 _)) (v' := .int .u32 (e : Nat)) (vint (by omega))) ?_
                refine oA ?_
                refine JO.nil (JX.blockN (JX.again (JC.seq (sR ?_))))
                refine oM ?_
                first | refine oD (Py.neq xe ev_const) ?_ | refine oU (Py.neq xe ev_const) ?_ | refine JO.py (Py.neq xe ev_const) ?_
                refine nC ?_
                refine cT ?_
                refine JC.skip (JX.code (JC.block (sR ?_)))
                refine oM ?_
                refine JO.py (Py.shr 1 2 xe ev_const rfl (by decide) (by decide) (by decide)) ?_
                refine JO.py (Py.idxA (j := 1) Tryz.underlying79 siz67 xe xe (by omega) (by omega) xmult) ?_
                refine JO.py (Py.load scal67 xe xpick xrow) ?_
                refine oA ?_
                refine nC (JC.seq (sR ?_))
                refine oM ?_
                refine oM ?_
                first | refine JO.py (Py.mul ev_const xe (w_u64 (by omega))) ?_ | refine JO.py (Py.mul ev_const xe (m_u64 _)) ?_
                first | refine JO.py (Py.sub ev_const xe (w_u64 (by omega))) ?_ | refine JO.py (Py.sub ev_const xe (m_u64 _)) ?_
                refine JO.py (Py.shrN 16 (a := e) xe xe (by omega) (by decide)) ?_
                refine JO.py (Py.to (Py.conv cnv45_5 xe (m_u8 _)) (v' := vu8 (e / 65536 % 256)) (vint (by omega))) ?_
                refine JO.call (Evs.cons xe Evs.nil) (far_con G (e / 65536 % 256)) xpkE ?_
                rintro _
                show JO _ _ _ _ _ _ _ ((123, _) :: _) _ (_ :: _)
                rw [hne]
                refine JO.py (Py.not xe (by first | with_reducible exact not_t | with_reducible exact not_f | exact rfl)) ?_
                refine nC ?_
                refine cT ?_
                refine JC.exit (JX.exit (JX.blockO rfl (JX.exit (JX.blockE ?_))))
                refine JX.cut () xag xpkE rfl
            · skip
              have hnm : nm8[2]? = some (.int .u64 2) := rfl
              have hne : Bx.far (e / 256 % 256) = false := hnear.2.1 hn
              rw [hn, Bx.enc1_2, hd0] at he
              rw [hh]
              cases hff : Bx.far (d0 / 256 % 256)
              · skip
                rw [hff, if_neg (by decide)] at he
                subst he
                refine JC.unroll 0 ?_
                refine JC.seq (sR ?_)
                refine oM ?_
                first | refine oD (Py.neq xe ev_const) ?_ | refine oU (Py.neq xe ev_const) ?_ | refine JO.py (Py.neq xe ev_const) ?_
                refine nC ?_
                refine cT ?_
                refine JC.skip (JX.code (JC.block (sR ?_)))
                refine oM ?_
                refine JO.py (Py.shr 1 2 xe ev_const rfl (by decide) (by decide) (by decide)) ?_
                refine JO.py (Py.idxA (j := 2) Tryz.underlying79 siz67 xe xe (by omega) (by omega) xmult) ?_
                refine JO.py (Py.load scal67 xe xpick xrow) ?_
                refine oA ?_
                refine nC (JC.seq (sR ?_))
                refine oM ?_
                refine oM ?_
                first | refine JO.py (Py.mul ev_const xe (w_u64 (by omega))) ?_ | refine JO.py (Py.mul ev_const xe (m_u64 _)) ?_
                first | refine JO.py (Py.sub ev_const xe (w_u64 (by omega))) ?_ | refine JO.py (Py.sub ev_const xe (m_u64 _)) ?_
                refine JO.py (Py.shrN 8 (a := d0) xe xe (by omega) (by decide)) ?_
                refine JO.py (Py.to (Py.conv cnv45_5 xe (m_u8 _)) (v' := vu8 (d0 / 256 % 256)) (vint (by omega))) ?_
                refine JO.call (Evs.cons xe Evs.nil) (far_con G (d0 / 256 % 256)) xpkE ?_
                rintro _
                show JO _ _ _ _ _ _ _ ((123, _) :: _) _ (_ :: _)
                rw [hff]
                refine JO.py (Py.not xe (by first | with_reducible exact not_t | with_reducible exact not_f | exact rfl)) ?_
                refine nC ?_
                refine cT ?_
                refine JC.exit (JX.exit (JX.blockO rfl (JX.exit (JX.blockE ?_))))
                refine JX.cut () xag xpkE rfl
              · skip
                rw [hff, if_pos rfl] at he
                obtain ⟨f, hfx⟩ : ∃ f, d0 ^^^ 65535 = f := ⟨_, rfl⟩
                have hfl : Bx.fl 65536 d0 = f := by rw [← hfx]; exact (Bx.fl_xor 16 d0).symm
                have hfb : f < 4294967296 := by rw [← hfx]; exact Nat.xor_lt_two_pow (n := 32) hd0l (by decide)
                rw [hfl] at he
                refine JC.unroll 1 ?_
                refine JC.seq (sR ?_)
                refine oM ?_
                first | refine oD (Py.neq xe ev_const) ?_ | refine oU (Py.neq xe ev_const) ?_ | refine JO.py (Py.neq xe ev_const) ?_
                refine nC ?_
                refine cT ?_
                refine JC.skip (JX.code (JC.block (sR ?_)))
                refine oM ?_
                refine JO.py (Py.shr 1 2 xe ev_const rfl (by decide) (by decide) (by decide)) ?_
                refine JO.py (Py.idxA (j := 2) Tryz.underlying79 siz67 xe xe (by omega) (by omega) xmult) ?_
                refine JO.py (Py.load scal67 xe xpick xrow) ?_
                refine oA ?_
                refine nC (JC.seq (sR ?_))
                refine oM ?_
                refine oM ?_
                first | refine JO.py (Py.mul ev_const xe (w_u64 (by omega))) ?_ | refine JO.py (Py.mul ev_const xe (m_u64 _)) ?_
                first | refine JO.py (Py.sub ev_const xe (w_u64 (by omega))) ?_ | refine JO.py (Py.sub ev_const xe (m_u64 _)) ?_
                refine JO.py (Py.shrN 8 (a := d0) xe xe (by omega) (by decide)) ?_
                refine JO.py (Py.to (Py.conv cnv45_5 xe (m_u8 _)) (v' := vu8 (d0 / 256 % 256)) (vint (by omega))) ?_
                refine JO.call (Evs.cons xe Evs.nil) (far_con G (d0 / 256 % 256)) xpkE ?_
                rintro _
                show JO _ _ _ _ _ _ _ ((123, _) :: _) _ (_ :: _)
                rw [hff]
                refine JO.py (Py.not xe (by first | with_reducible exact not_t | with_reducible exact not_f | exact rfl)) ?_
                refine nC ?_
                refine cF ?_
                refine JC.skip (JX.code (sR ?_))
                refine oM ?_
                refine oM ?_
                first | refine JO.py (Py.mul ev_const xe (w_u64 (by omega))) ?_ | refine JO.py (Py.mul ev_const xe (m_u64 _)) ?_
                first | refine JO.py (Py.sub ev_const xe (w_u64 (by omega))) ?_ | refine JO.py (Py.sub ev_const xe (m_u64 _)) ?_
                refine JO.py (Py.to (Py.shlN 16 ev_const xe (by omega) (by decide) (w_u32 (by decide))) (v' := .int .u32 65536) (vint (by decide))) ?_
                first | refine JO.py (Py.sub xe ev_const (w_u32 (by omega))) ?_ | refine JO.py (Py.sub xe ev_const (m_u32 _)) ?_
                refine JO.py (Py.to (Py.xorN xe xe (r_u32 (by omega)) (r_u32 (by omega)) (by decide)) (v' := .int .u32 (f : Nat)) (vint (by rw [← hfx]; rfl))) ?_
                refine oA ?_
                refine nC (JC.region ?_)
                refine oM ?_
                refine oM ?_
                first | refine JO.py (Py.conv cnv3_45 xe (w_u32 (by omega))) ?_ | refine JO.py (Py.conv cnv3_45 xe (m_u32 _)) ?_
                refine JO.py (Py.add xe xe (m_u32 _)) ?_
                refine JO.py (Py.to (Py.add xe ev_const (m_u32 _)) (v' := .int .u32 (e : Nat)) (vint (by omega))) ?_
                refine oA ?_
                refine JO.nil (JX.blockN (JX.again (JC.seq (sR ?_))))
                refine oM ?_
                first | refine oD (Py.neq xe ev_const) ?_ | refine oU (Py.neq xe ev_const) ?_ | refine JO.py (Py.neq xe ev_const) ?_
                refine nC ?_
                refine cT ?_
                refine JC.skip (JX.code (JC.block (sR ?_)))
                refine oM ?_
                refine JO.py (Py.shr 1 2 xe ev_const rfl (by decide) (by decide) (by decide)) ?_
                refine JO.py (Py.idxA (j := 2) Tryz.underlying79 siz67 xe xe (by omega) (by omega) xmult) ?_
                refine JO.py (Py.load scal67 xe xpick xrow) ?_
                refine oA ?_
                refine nC (JC.seq (sR ?_))
                refine oM ?_
                refine oM ?_
                first | refine JO.py (Py.mul ev_const xe (w_u64 (by omega))) ?_ | refine JO.py (Py.mul ev_const xe (m_u64 _)) ?_
                first | refine JO.py (Py.sub ev_const xe (w_u64 (by omega))) ?_ | refine JO.py (Py.sub ev_const xe (m_u64 _)) ?_
                refine JO.py (Py.shrN 8 (a := e) xe xe (by omega) (by decide)) ?_
                refine JO.py (Py.to (Py.conv cnv45_5 xe (m_u8 _)) (v' := vu8 (e / 256 % 256)) (vint (by omega))) ?_
                refine JO.call (Evs.cons xe Evs.nil) (far_con G (e / 256 % 256)) xpkE ?_
                rintro _
                show JO _ _ _ _ _ _ _ ((123, _) :: _) _ (_ :: _)
                rw [hne]
                refine JO.py (Py.not xe (by first | with_reducible exact not_t | with_reducible exact not_f | exact rfl)) ?_
                refine nC ?_
                refine cT ?_
                refine JC.exit (JX.exit (JX.blockO rfl (JX.exit (JX.blockE ?_))))
                refine JX.cut () xag xpkE rfl
            · skip
              have hnm : nm8[4]? = some (.int .u64 3) := rfl
              have hne : Bx.far (e % 256) = false := hnear.2.2 hn
              rw [hn, Bx.enc1_3, hd0] at he
              rw [hh]
              cases hff : Bx.far (d0 % 256)
              · skip
                rw [hff, if_neg (by decide)] at he
                subst he
                refine JC.unroll 0 ?_
                refine JC.seq (sR ?_)
                refine oM ?_
                first | refine oD (Py.neq xe ev_const) ?_ | refine oU (Py.neq xe ev_const) ?_ | refine JO.py (Py.neq xe ev_const) ?_
                refine nC ?_
                refine cT ?_
                refine JC.skip (JX.code (JC.block (sR ?_)))
                refine oM ?_
                refine JO.py (Py.shr 1 2 xe ev_const rfl (by decide) (by decide) (by decide)) ?_
                refine JO.py (Py.idxA (j := 4) Tryz.underlying79 siz67 xe xe (by omega) (by omega) xmult) ?_
                refine JO.py (Py.load scal67 xe xpick xrow) ?_
                refine oA ?_
                refine nC (JC.seq (sR ?_))
                refine oM ?_
                refine oM ?_
                first | refine JO.py (Py.mul ev_const xe (w_u64 (by omega))) ?_ | refine JO.py (Py.mul ev_const xe (m_u64 _)) ?_
                first | refine JO.py (Py.sub ev_const xe (w_u64 (by omega))) ?_ | refine JO.py (Py.sub ev_const xe (m_u64 _)) ?_
                refine JO.py (Py.shrN 0 (a := d0) xe xe (by omega) (by decide)) ?_
                refine JO.py (Py.to (Py.conv cnv45_5 xe (m_u8 _)) (v' := vu8 (d0 % 256)) (vint (by omega))) ?_
                refine JO.call (Evs.cons xe Evs.nil) (far_con G (d0 % 256)) xpkE ?_
                rintro _
                show JO _ _ _ _ _ _ _ ((123, _) :: _) _ (_ :: _)
                rw [hff]
                refine JO.py (Py.not xe (by first | with_reducible exact not_t | with_reducible exact not_f | exact rfl)) ?_
                refine nC ?_
                refine cT ?_
                refine JC.exit (JX.exit (JX.blockO rfl (JX.exit (JX.blockE ?_))))
                refine JX.cut () xag xpkE rfl
              · skip
                rw [hff, if_pos rfl] at he
                obtain ⟨f, hfx⟩ : ∃ f, d0 ^^^ 255 = f := ⟨_, rfl⟩
                have hfl : Bx.fl 256 d0 = f := by rw [← hfx]; exact (Bx.fl_xor 8 d0).symm
                have hfb : f < 4294967296 := by rw [← hfx]; exact Nat.xor_lt_two_pow (n := 32) hd0l (by decide)
                rw [hfl] at he
                refine JC.unroll 1 ?_
                refine JC.seq (sR ?_)
                refine oM ?_
                first | refine oD (Py.neq xe ev_const) ?_ | refine oU (Py.neq xe ev_const) ?_ | refine JO.py (Py.neq xe ev_const) ?_
                refine nC ?_
                refine cT ?_
                refine JC.skip (JX.code (JC.block (sR ?_)))
                refine oM ?_
                refine JO.py (Py.shr 1 2 xe ev_const rfl (by decide) (by decide) (by decide)) ?_
                refine JO.py (Py.idxA (j := 4) Tryz.underlying79 siz67 xe xe (by omega) (by omega) xmult) ?_
                refine JO.py (Py.load scal67 xe xpick xrow) ?_
                refine oA ?_
                refine nC (JC.seq (sR ?_))
                refine oM ?_
                refine oM ?_
                first | refine JO.py (Py.mul ev_const xe (w_u64 (by omega))) ?_ | refine JO.py (Py.mul ev_const xe (m_u64 _)) ?_
                first | refine JO.py (Py.sub ev_const xe (w_u64 (by omega))) ?_ | refine JO.py (Py.sub ev_const xe (m_u64 _)) ?_
                refine JO.py (Py.shrN 0 (a := d0) xe xe (by omega) (by decide)) ?_
                refine JO.py (Py.to (Py.conv cnv45_5 xe (m_u8 _)) (v' := vu8 (d0 % 256)) (vint (by omega))) ?_
                refine JO.call (Evs.cons xe Evs.nil) (far_con G (d0 % 256)) xpkE ?_
                rintro _
                show JO _ _ _ _ _ _ _ ((123, _) :: _) _ (_ :: _)
                rw [hff]
                refine JO.py (Py.not xe (by first | with_reducible exact not_t | with_reducible exact not_f | exact rfl)) ?_
                refine nC ?_
                refine cF ?_
                refine JC.skip (JX.code (sR ?_))
                refine oM ?_
                refine oM ?_
                first | refine JO.py (Py.mul ev_const xe (w_u64 (by omega))) ?_ | refine JO.py (Py.mul ev_const xe (m_u64 _)) ?_
                first | refine JO.py (Py.sub ev_const xe (w_u64 (by omega))) ?_ | refine JO.py (Py.sub ev_const xe (m_u64 _)) ?_
                refine JO.py (Py.to (Py.shlN 8 ev_const xe (by omega) (by decide) (w_u32 (by decide))) (v' := .int .u32 256) (vint (by decide))) ?_
                first | refine JO.py (Py.sub xe ev_const (w_u32 (by omega))) ?_ | refine JO.py (Py.sub xe ev_const (m_u32 _)) ?_
                refine JO.py (Py.to (Py.xorN xe xe (r_u32 (by omega)) (r_u32 (by omega)) (by decide)) (v' := .int .u32 (f : Nat)) (vint (by rw [← hfx]; rfl))) ?_
                refine oA ?_
                refine nC (JC.region ?_)
                refine oM ?_
                refine oM ?_
                first | refine JO.py (Py.conv cnv3_45 xe (w_u32 (by omega))) ?_ | refine JO.py (Py.conv cnv3_45 xe (m_u32 _)) ?_
                refine JO.py (Py.add xe xe (m_u32 _)) ?_
                refine JO.py (Py.to (Py.add xe ev_const (m_u32 _)) (v' := .int .u32 (e : Nat)) (vint (by omega))) ?_
                refine oA ?_
                refine JO.nil (JX.blockN (JX.again (JC.seq (sR ?_))))
                refine oM ?_
                first | refine oD (Py.neq xe ev_const) ?_ | refine oU (Py.neq xe ev_const) ?_ | refine JO.py (Py.neq xe ev_const) ?_
                refine nC ?_
                refine cT ?_
                refine JC.skip (JX.code (JC.block (sR ?_)))
                refine oM ?_
                refine JO.py (Py.shr 1 2 xe ev_const rfl (by decide) (by decide) (by decide)) ?_
                refine JO.py (Py.idxA (j := 4) Tryz.underlying79 siz67 xe xe (by omega) (by omega) xmult) ?_
                refine JO.py (Py.load scal67 xe xpick xrow) ?_
                refine oA ?_
                refine nC (JC.seq (sR ?_))
                refine oM ?_
                refine oM ?_
                first | refine JO.py (Py.mul ev_const xe (w_u64 (by omega))) ?_ | refine JO.py (Py.mul ev_const xe (m_u64 _)) ?_
                first | refine JO.py (Py.sub ev_const xe (w_u64 (by omega))) ?_ | refine JO.py (Py.sub ev_const xe (m_u64 _)) ?_
                refine JO.py (Py.shrN 0 (a := e) xe xe (by omega) (by decide)) ?_
                refine JO.py (Py.to (Py.conv cnv45_5 xe (m_u8 _)) (v' := vu8 (e % 256)) (vint (by omega))) ?_
                refine JO.call (Evs.cons xe Evs.nil) (far_con G (e % 256)) xpkE ?_
                rintro _
                show JO _ _ _ _ _ _ _ ((123, _) :: _) _ (_ :: _)
                rw [hne]
                refine JO.py (Py.not xe (by first | with_reducible exact not_t | with_reducible exact not_f | exact rfl)) ?_
                refine nC ?_
                refine cT ?_
                refine JC.exit (JX.exit (JX.blockO rfl (JX.exit (JX.blockE ?_))))
                refine JX.cut () xag xpkE rfl
            · skip
              exact absurd hn4 (by omega)
          rintro _ base5
          try dsimp only
          refine JX.code (sR ?_)
          refine oM ?_
          refine oM ?_
          refine JO.py (Py.add xe ev_const wI) ?_
          refine oM ?_
          refine JO.py (Py.shr 24 16777216 xe ev_const rfl (by decide) (by decide) (by decide)) ?_
          refine JO.py (Py.mask 1 2 xe ev_const (by decide) (by decide) (by decide) (r_u32 (by omega)) (w_u32 (by omega))) ?_
          first | refine JO.py (Py.neg xe (w_u32 (by omega))) ?_ | refine JO.py (Py.neg xe (m_u32 _)) ?_
          refine JO.py (Py.to (Py.conv cnv45_5 xe (m_u8 _)) (v' := vu8 (Bx.by4 e)) (vint (by unfold Bx.by4; split <;> omega))) ?_
          refine JO.py (Py.idxS (j := pos + 4) Tryz.underlying22 siz5 xe xe (by omega) (by omega) xmult) ?_
          refine JO.store siz5 xe xe (by first | rfl | assumption) xpick xsize xnorm ?_
          refine nC (sR ?_)
          refine oM ?_
          refine oM ?_
          refine JO.py (Py.add xe ev_const wI) ?_
          refine oM ?_
          refine oM ?_
          refine JO.py (Py.add xe ev_const wI) ?_
          refine oM ?_
          refine oM ?_
          refine JO.py (Py.add xe ev_const wI) ?_
          refine oM ?_
          refine JO.py (Py.shr 16 65536 xe ev_const rfl (by decide) (by decide) (by decide)) ?_
          refine JO.py (Py.to (Py.conv cnv45_5 xe (m_u8 _)) (v' := vu8 (Bx.by3 e)) (vint (by unfold Bx.by3; omega))) ?_
          refine oM ?_
          refine JO.py (Py.shr 8 256 xe ev_const rfl (by decide) (by decide) (by decide)) ?_
          refine JO.py (Py.to (Py.conv cnv45_5 xe (m_u8 _)) (v' := vu8 (Bx.by2 e)) (vint (by unfold Bx.by2; omega))) ?_
          refine oM ?_
          refine JO.py (Py.to (Py.conv cnv45_5 xe (m_u8 _)) (v' := vu8 (Bx.by1 e)) (vint (by unfold Bx.by1; omega))) ?_
          refine JO.py (Py.idxS (j := pos + 3) Tryz.underlying22 siz5 xe xe (by omega) (by omega) xmult) ?_
          refine JO.store siz5 xe xe (by first | rfl | assumption) xpick xsize xnorm ?_
          refine JO.py (Py.idxS (j := pos + 2) Tryz.underlying22 siz5 xe xe (by omega) (by omega) xmult) ?_
          refine JO.store siz5 xe xe (by first | rfl | assumption) xpick xsize xnorm ?_
          refine JO.py (Py.idxS (j := pos + 1) Tryz.underlying22 siz5 xe xe (by omega) (by omega) xmult) ?_
          refine JO.store siz5 xe xe (by first | rfl | assumption) xpick xsize xnorm ?_
          refine nC (sR ?_)
          refine oM ?_
          refine JO.py (Py.add xe ev_const wI) ?_
          refine oA ?_
          refine nC (JC.region ?_)
          refine oC ?_
          refine JO.nil (JX.blockN ?_)
          have hR2 := enc_put (y1 := Bx.by1 e) (y2 := Bx.by2 e) (y3 := Bx.by3 e) (y4 := Bx.by4 e) hR hlen h5 (by omega) e0 (by unfold Bx.by1; omega) (by unfold Bx.by2; omega) (by unfold Bx.by3; omega) (by unfold Bx.by4; split <;> omega)
          refine JX.loop (pos + 5, Bx.H.none, 0, pos + 5, out ++ [x0, Bx.by1 e, Bx.by2 e, Bx.by3 e, Bx.by4 e], (((cur.setIfInBounds (pos + 4) (vu8 (Bx.by4 e))).setIfInBounds (pos + 3) (vu8 (Bx.by3 e))).setIfInBounds (pos + 2) (vu8 (Bx.by2 e))).setIfInBounds (pos + 1) (vu8 (Bx.by1 e))) ⟨hE2, hR2, by simp only [Array.size_setIfInBounds]; exact hz2, by simp, by dsimp only; omega, by dsimp only; rw [show pos + 5 + 5 - (pos + 5) = 5 by omega]; rfl⟩ (by dsimp only; omega) xag xpkE
        · skip
          have hcv2 : Bx.far x4 = false ∨ 4 ≤ h.n := by
            cases hf : Bx.far x4
            · exact .inl rfl
            · right; simp [hf] at hcv; exact hcv
          have hlf := hE.left h5 (by rw [e0]; exact hop) (by rw [e4]; exact hcv2)
          rw [e0, e4] at hlf
          have ho1 := hm_or1 h
          have ho16 := hm_or16 h
          rw [Bool.not_eq_true] at hcv
          rw [hcv, show (!false) = true from rfl]
          refine cT ?_
          refine sR ?_
          refine oM ?_
          refine JO.py (Py.add xe ev_const wI) ?_
          refine oA ?_
          refine nC (sR ?_)
          refine oM ?_
          refine JO.py (Py.to (Py.orN xe ev_const (r_u32 (by omega)) (r_u32 (by omega)) (by decide)) (v' := .int .u32 (h.hm + 1 : Nat)) (vint (or_int (x := h.hm) (y := 1) (by omega) rfl ho1))) ?_
          refine oA ?_
          refine nC (JC.seq (sR ?_))
          refine oM ?_
          refine JO.call (Evs.cons xe Evs.nil) (far_con G x4) xpkE ?_
          rintro _
          show JO _ _ _ _ _ _ _ ((77, _) :: _) _ (_ :: _)
          cases hf4 : Bx.far x4
          · skip
            rw [hf4] at hlf
            have hnx := Bx.hm_left h false
            refine nC ?_
            refine cF ?_
            refine JC.skip (JX.code (JC.exit (JX.exit (JX.blockE ?_))))
            refine JX.loop (pos + 1, h.next (some false), h.hm + 1, pos + 5, out ++ [x0], cur) ⟨hlf, by dsimp only; rw [← e0, Bx.cat_next (by omega)]; exact hR, hz2, by dsimp only; omega, by dsimp only; omega, by dsimp only; rw [show pos + 1 + 5 - (pos + 5) = 1 by omega]; exact hnx⟩ (by dsimp only; omega) xag xpkE
          · skip
            rw [hf4] at hlf
            have hnx := Bx.hm_left h true
            refine nC ?_
            refine cT ?_
            refine JC.region ?_
            refine oM ?_
            refine JO.py (Py.to (Py.orN xe ev_const (r_u32 (by omega)) (r_u32 (by omega)) (by decide)) (v' := .int .u32 (h.hm + 17 : Nat)) (vint (or_int (x := h.hm + 1) (y := 16) (by omega) rfl ho16))) ?_
            refine oA ?_
            refine nC (JC.exit (JX.exit (JX.blockE ?_)))
            refine JX.loop (pos + 1, h.next (some true), h.hm + 17, pos + 5, out ++ [x0], cur) ⟨hlf, by dsimp only; rw [← e0, Bx.cat_next (by omega)]; exact hR, hz2, by dsimp only; omega, by dsimp only; omega, by dsimp only; rw [show pos + 1 + 5 - (pos + 5) = 1 by omega]; exact hnx⟩ (by dsimp only; omega) xag xpkE
    · skip
      refine JC.seq (sR ?_)
      refine oM ?_
      refine JO.py (Py.add xe ev_const wI) ?_
      refine oM ?_
      refine JO.py (Py.lenS Tryz.underlying22 xe) ?_
      first | refine oD (Py.leq xe xe) ?_ | refine oU (Py.leq xe xe) ?_ | refine JO.py (Py.leq xe xe) ?_
      refine nC ?_
      refine cF ?_
      refine JC.exit (JX.exit (JX.exit (JX.blockE (JX.code (sR ?_)))))
      refine oM ?_
      refine oA ?_
      refine nC (JC.ret ?_)
      have hlast := hE.last (by omega)
      refine JX.torow (b := rb) (e := 5) (m := bl) (cap := rc) (xs := u8s (Bx.enc 0 Bx.H.none bs)) xpick (by rw [← hlast]; exact hR.row hz2 (by rw [Bx.cat_len hlen hle]; omega) hrlt) (by rw [u8s_len, ← hlast, Bx.cat_len hlen hle]; exact hbl) ?_
      refine JX.end1 (Or.inl rfl) (_) Tryz.results28 ((xe).trans (by first | exact xval | (dsimp only; exact xval))) xpkE
end Go.Proofs.YtfpepghmbeoanaaGreatDoor
