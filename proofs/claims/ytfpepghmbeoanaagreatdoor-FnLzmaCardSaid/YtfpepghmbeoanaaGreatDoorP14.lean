/-
FnLzma: the law's walk.
-/
import Derived.Test.YtfpepghmbeoanaaGreatDoorP12
import Derived.Test.YtfpepghmbeoanaaGreatDoorP13
set_option linter.unusedSimpArgs false
set_option linter.unusedVariables false
open Go Go.RowKit
namespace Go.Proofs.YtfpepghmbeoanaaGreatDoor
open Lz
set_option linter.unusedSimpArgs false
set_option linter.unusedVariables false
theorem symsEv_len (c : Cfg) {b : List Nat} (hb : b.length ≤ 100000) : ∀ (l : List Sym) (S : LzS), S.Ok b.length → ValidAll b S l → (symsEv c b S l).length + 50 * S.i ≤ 50 * (S.run l).i
  | [], S, _, _ => by simp [symsEv, LzS.run]
  | y :: l, S, hS, hv => by
    have ih := symsEv_len c hb l (S.next y) (LzS.next_ok hS y hv.1) hv.2
    have hi := hS.i
    have h1 : (symEv c b S y).length ≤ 50 := symEv_len c b S y (fun d n h => by
      subst h
      have := hv.1.2.dist.resolve_left (by have := hv.1.1; omega)
      omega)
    have h2 : S.i + 1 ≤ (S.next y).i := by
      cases y with
      | lit => exact Nat.le_refl _
      | rep k n => have := hv.1.2.1; show S.i + 1 ≤ S.i + n; omega
      | mat d n => have := hv.1.1; show S.i + 1 ≤ S.i + n; omega
    simp only [symsEv, List.length_append, LzS.run]
    omega
/-- The coder's bytes are a stream. -/
theorem stream_of (c : Cfg) (hc : c.Ok) (bs : List Nat) (l : List Sym) (hv : ValidAll bs LzS.start l) (hr : (LzS.start.run l).i = bs.length) (hpos : 0 < bs.length) (hlen : bs.length ≤ 3000) (hby : ∀ x ∈ bs, x < 256) :
    ∃ x1 x2 x3 x4 rb, (Enc.evs M0 Enc.start (symsEv c bs LzS.start l)).flush.out = 0 :: x1 :: x2 :: x3 :: x4 :: rb ∧ StreamOk c bs l x1 x2 x3 x4 rb ∧ (∀ x ∈ 0 :: x1 :: x2 :: x3 :: x4 :: rb, x < 256) ∧ rb.length ≤ 900000 := by
  obtain ⟨x1, x2, x3, x4, rb, ho, hb, hn, hd, hl⟩ := stream_ok M0_PMok (symsEv c bs LzS.start l)
  have h1 := symsEv_len c (by omega) l LzS.start (LzS.start_ok _) hv
  rw [ho] at hb
  have hs : LzS.start.i = 0 := rfl
  refine ⟨x1, x2, x3, x4, rb, ho, ⟨hc, hv, hr, hpos, hlen, hby, hb _ (by simp), hb _ (by simp), hb _ (by simp), hb _ (by simp), hn, hd⟩, hb, ?_⟩
  rw [hr] at h1
  omega
theorem agg26 : Aggr Tryz.prog 26 6 := fun _ => ⟨by kernel_rfl, by kernel_rfl⟩
set_option maxRecDepth 100000 in
theorem way_con (G : Gst) (x0 x1 x2 x3 x4 x5 : Nat) (h0 : x0 < 256) (h1 : x1 < 256) (h2 : x2 < 256) (h3 : x3 < 256) (h4 : x4 < 256) (h5 : x5 < 256) :
    Con Tryz.prog G 6 #[.agg #[vu8 x0, vu8 x1, vu8 x2, vu8 x3, vu8 x4, vu8 x5]] [] (fun x : {x : Int × Int × Int × Cfg // x.2.2.2.Ok} => .agg #[.int .i64 x.1.1, .int .i64 x.1.2.1, .int .i64 x.1.2.2.1, .int .i64 x.1.2.2.2.lc, .int .i64 x.1.2.2.2.lp, .int .i64 x.1.2.2.2.pb]) (fun _ => []) := by
  obtain ⟨lc, hlc⟩ : ∃ lc, x3 % 5 = lc := ⟨_, rfl⟩
  have hl4 : lc ≤ 4 := by omega
  obtain ⟨lp, hlp⟩ : ∃ lp, x4 % (5 - lc) = lp := ⟨_, rfl⟩
  have hlp4 : lc + lp ≤ 4 := by have := Nat.mod_lt x4 (show 0 < 5 - lc by omega); omega
  obtain ⟨pb, hpb⟩ : ∃ pb, x5 % 5 = pb := ⟨_, rfl⟩
  have hok : (⟨lc, lp, pb⟩ : Cfg).Ok := ⟨hlp4, by dsimp only; omega⟩
  refine Con.intro Tryz.func6 rfl (by kernel_rfl) Tryz.ntmps6 (Nat.le_of_ble_eq_true rfl) ?_
  intro F
  show JC _ _ _ _ _ _ [(0, _)] _ [_]
  refine JC.seq (JC.region ?_)
  refine JO.boxA xe ?_; intro b1
  refine JO.allocA zer26 ?_; intro b2
  refine JO.nil (JX.code (JC.seq (JC.region ?_)))
  refine JO.py (Py.fld fld24_3 xe xoff) ?_
  refine JO.py (Py.load scal5 xe xpick xrow) ?_
  refine JO.py (Py.to (Py.rem xe ev_const (by omega) (by omega)) (v' := .int .u8 (lc : Nat)) (vint (by omega))) ?_
  first | refine JO.py (Py.conv cnv5_3 xe (w_i64 (by omega))) ?_ | refine JO.py (Py.conv cnv5_3 xe rfl) ?_
  refine JO.py (Py.assign xe) ?_
  refine JO.nil (JX.code (JC.seq ?_))
  refine JC.regionM [(0, true), (1, true), (2, true), (3, true), (4, true), (5, true), (6, true), (7, true), (8, true), (9, true), (10, true), (11, true), (12, true), (13, true), (14, true), (15, true), (16, true), (17, true), (18, true), (19, true), (20, true), (21, true), (22, true), (23, true), (24, true), (25, false)] mixed (by kernel_rfl) ?_
  refine JM.py Ao0 ⟨fun _ => Py.fld fld24_0 xe xoff⟩ ?_
  refine JM.ld Ao1 scal5 xe xpick xrow ?_
  refine JM.py Ao2 ⟨fun _ => Py.rem xe ev_const (by omega) (by omega)⟩ ?_
  first | refine JM.py Ao3 ⟨fun _ => Py.conv cnv5_3 xe (w_i64 (by omega))⟩ ?_ | refine JM.py Ao3 ⟨fun _ => Py.conv cnv5_3 xe rfl⟩ ?_
  refine JM.py Ao4 ⟨fun _ => Py.fld fld24_1 xe xoff⟩ ?_
  refine JM.ld Ao5 scal5 xe xpick xrow ?_
  first | refine JM.py Ao6 ⟨fun _ => Py.conv cnv5_3 xe (w_i64 (by omega))⟩ ?_ | refine JM.py Ao6 ⟨fun _ => Py.conv cnv5_3 xe rfl⟩ ?_
  refine JM.py Ao7 ⟨fun _ => Py.rem xe ev_const (by omega) (by omega)⟩ ?_
  refine JM.py Ao8 ⟨fun _ => Py.add ev_const xe (w_i64 (by omega))⟩ ?_
  refine JM.py Ao9 ⟨fun _ => Py.fld fld24_2 xe xoff⟩ ?_
  refine JM.ld Ao10 scal5 xe xpick xrow ?_
  refine JM.py Ao11 ⟨fun _ => Py.rem xe ev_const (by omega) (by omega)⟩ ?_
  first | refine JM.py Ao12 ⟨fun _ => Py.conv cnv5_3 xe (w_i64 (by omega))⟩ ?_ | refine JM.py Ao12 ⟨fun _ => Py.conv cnv5_3 xe rfl⟩ ?_
  refine JM.py Ao13 ⟨fun _ => Py.move xe⟩ ?_
  refine JM.py Ao14 ⟨fun _ => Py.fld fld24_4 xe xoff⟩ ?_
  refine JM.ld Ao15 scal5 xe xpick xrow ?_
  first | refine JM.py Ao16 ⟨fun _ => Py.conv cnv5_3 xe (w_i64 (by omega))⟩ ?_ | refine JM.py Ao16 ⟨fun _ => Py.conv cnv5_3 xe rfl⟩ ?_
  refine JM.py Ao17 ⟨fun _ => Py.move xe⟩ ?_
  refine JM.py Ao18 ⟨fun _ => Py.sub (c := ((5 - lc : Nat) : Int)) ev_const xe (by rw [w_i64 (by omega)]; omega)⟩ ?_
  refine JM.py Ao19 ⟨fun _ => Py.to (Py.rem xe xe (by omega) (by omega)) (v' := .int .i64 (lp : Nat)) (vint (by rw [← hlp]; simp))⟩ ?_
  refine JM.py Ao20 ⟨fun _ => Py.fld fld24_5 xe xoff⟩ ?_
  refine JM.ld Ao21 scal5 xe xpick xrow ?_
  refine JM.py Ao22 ⟨fun _ => Py.to (Py.rem xe ev_const (by omega) (by omega)) (v' := .int .u8 (pb : Nat)) (vint (by omega))⟩ ?_
  first | refine JM.py Ao23 ⟨fun _ => Py.conv cnv5_3 xe (w_i64 (by omega))⟩ ?_ | refine JM.py Ao23 ⟨fun _ => Py.conv cnv5_3 xe rfl⟩ ?_
  refine JM.py Ao24 ⟨fun _ => Py.build bld26 (Pts.cons xe (Pts.cons xe (Pts.cons xe (Pts.cons xe (Pts.cons xe (Pts.cons xe Pts.nil)))))) xfl⟩ ?_
  refine JM.eff Ao25 ?_
  refine JO.storeW siz26 xe xe (by first | rfl | (simp; done) | assumption | fail) (by first | (simp [Value.oneCell']; done) | assumption | fail) xpick (by first | rfl | (simp; done) | assumption | fail) ?_
  refine JO.nil ?_
  refine JX.mix (Kept.drop (Forced.step (by kernel_rfl)) (Kept.drop (Forced.step (by kernel_rfl)) (Kept.drop (Forced.step (by kernel_rfl)) (Kept.drop (Forced.step (by kernel_rfl)) (Kept.drop (Forced.step (by kernel_rfl)) Kept.nil))))) ?_
  refine JM.nil (JX.code (JC.ret ?_))
  refine JX.endC1 (vs := #[.int .i64 ((x0 : Int) % 6), .int .i64 (1 + (x1 : Int) % 255), .int .i64 ((x2 : Int) % 3), .int .i64 lc, .int .i64 lp, .int .i64 pb]) (Or.inl rfl) (⟨((x0 : Int) % 6, 1 + (x1 : Int) % 255, (x2 : Int) % 3, ⟨lc, lp, pb⟩), hok⟩) Tryz.results6 xe agg26 xpick (Nat.le_of_ble_eq_true rfl) (by rfl) rfl xpkE
/-- A text that is too long, or empty: nothing is asked. -/
theorem law3_out (G : Gst) (ba : Option Addr) (bl bc : Nat) (wv : Array Value) (h : bl = 0 ∨ 3000 < bl) (hb : bl < 9223372036854775808) :
    Con Tryz.prog G 3 #[.slice ba bl bc, .agg wv] [] (fun _ : Unit => .bool true) (fun _ => []) := by
  refine Con.intro Tryz.func3 rfl (by kernel_rfl) Tryz.ntmps3 (Nat.le_of_ble_eq_true rfl) ?_
  intro F
  show JC _ _ _ _ _ _ [(0, _), (1, _)] _ [_]
  refine JC.seq (JC.region ?_)
  refine JO.boxA xe ?_; intro b3
  refine JO.py (Py.assign ev_const) ?_
  refine JO.nil (JX.code (JC.seq (JC.seq (JC.region ?_))))
  refine JO.py (Py.move xe) ?_
  refine JO.py (Py.lenS Tryz.underlying22 xe) ?_
  first | refine JO.py (Py.dec (Py.gtr xe ev_const) (by omega)) ?_ | refine JO.py (Py.undec (Py.gtr xe ev_const) (by omega)) ?_ | refine JO.py (Py.gtr xe ev_const) ?_
  refine JO.nil (JX.code ?_)
  by_cases h1 : 2147483647 < bl
  · skip
    first | refine JC.condT xe ?_ | refine JC.condT ((xe).trans (vbool (decide_eq_true (by omega)))) ?_
    refine JC.seq (JC.region ?_)
    refine JO.py (Py.assign ev_const) ?_
    refine JO.nil (JX.code (JC.ret (JX.ret ?_)))
    refine JX.end1 (Or.inl rfl) (()) Tryz.results3 ((xe).trans (by first | exact xval | (dsimp only; exact xval))) xpkE
  · skip
    first | refine JC.condF xe ?_ | refine JC.condF ((xe).trans (vbool (decide_eq_false (by omega)))) ?_
    by_cases h0 : bl = 0
    · skip
      refine JC.skip (JX.code (JC.seq (JC.seq (JC.region ?_))))
      refine JO.py (Py.move xe) ?_
      refine JO.py (Py.lenS Tryz.underlying22 xe) ?_
      first | refine JO.py (Py.dec (Py.eql xe ev_const) (by omega)) ?_ | refine JO.py (Py.undec (Py.eql xe ev_const) (by omega)) ?_ | refine JO.py (Py.eql xe ev_const) ?_
      refine JO.py (Py.move xe) ?_
      first | (refine JO.go rfl (Lk.ev (v := .bool false) xlk rfl) ?_; (refine JO.py (Py.move xe) ?_)) | refine JO.skipS rfl (Lk.ev (v := .bool true) xlk rfl) ?_
      first | (refine JO.go rfl (Lk.ev (v := .bool false) xlk rfl) ?_; (refine JO.py (Py.lenS Tryz.underlying22 xe) ?_)) | refine JO.skipS rfl (Lk.ev (v := .bool true) xlk rfl) ?_
      first | (refine JO.go rfl (Lk.ev (v := .bool false) xlk rfl) ?_; (first | refine JO.py (Py.dec (Py.gtr xe ev_const) (by omega)) ?_ | refine JO.py (Py.undec (Py.gtr xe ev_const) (by omega)) ?_ | refine JO.py (Py.gtr xe ev_const) ?_)) | refine JO.skipS rfl (Lk.ev (v := .bool true) xlk rfl) ?_
      first | refine JO.py (Py.pickT xe ev_const) ?_ | refine JO.py (Py.pickF xe xe) ?_
      refine JO.nil (JX.code ?_)
      first | refine JC.condT xe ?_ | refine JC.condT ((xe).trans (vbool (decide_eq_true (by omega)))) ?_
      refine JC.seq (JC.region ?_)
      refine JO.py (Py.assign ev_const) ?_
      refine JO.nil (JX.code (JC.ret (JX.ret ?_)))
      refine JX.end1 (Or.inl rfl) (()) Tryz.results3 ((xe).trans (by first | exact xval | (dsimp only; exact xval))) xpkE
    · skip
      have h2 : 3000 < bl := by omega
      refine JC.skip (JX.code (JC.seq (JC.seq (JC.region ?_))))
      refine JO.py (Py.move xe) ?_
      refine JO.py (Py.lenS Tryz.underlying22 xe) ?_
      first | refine JO.py (Py.dec (Py.eql xe ev_const) (by omega)) ?_ | refine JO.py (Py.undec (Py.eql xe ev_const) (by omega)) ?_ | refine JO.py (Py.eql xe ev_const) ?_
      refine JO.py (Py.move xe) ?_
      first | (refine JO.go rfl (Lk.ev (v := .bool false) xlk rfl) ?_; (refine JO.py (Py.move xe) ?_)) | refine JO.skipS rfl (Lk.ev (v := .bool true) xlk rfl) ?_
      first | (refine JO.go rfl (Lk.ev (v := .bool false) xlk rfl) ?_; (refine JO.py (Py.lenS Tryz.underlying22 xe) ?_)) | refine JO.skipS rfl (Lk.ev (v := .bool true) xlk rfl) ?_
      first | (refine JO.go rfl (Lk.ev (v := .bool false) xlk rfl) ?_; (first | refine JO.py (Py.dec (Py.gtr xe ev_const) (by omega)) ?_ | refine JO.py (Py.undec (Py.gtr xe ev_const) (by omega)) ?_ | refine JO.py (Py.gtr xe ev_const) ?_)) | refine JO.skipS rfl (Lk.ev (v := .bool true) xlk rfl) ?_
      first | refine JO.py (Py.pickT xe ev_const) ?_ | refine JO.py (Py.pickF xe xe) ?_
      refine JO.nil (JX.code ?_)
      first | refine JC.condT xe ?_ | refine JC.condT ((xe).trans (vbool (decide_eq_true (by omega)))) ?_
      refine JC.seq (JC.region ?_)
      refine JO.py (Py.assign ev_const) ?_
      refine JO.nil (JX.code (JC.ret (JX.ret ?_)))
      refine JX.end1 (Or.inl rfl) (()) Tryz.results3 ((xe).trans (by first | exact xval | (dsimp only; exact xval))) xpkE
set_option maxRecDepth 100000 in
set_option maxHeartbeats 4000000 in
theorem law3_in (G : Gst) (bb ob bl bc : Nat) (cs : Array Value) (Tb : TypeId) (fr : Nat × Nat) (bs : List Nat) (hb : RdOk cs ob bs) (hbl : bs.length = bl) (h1 : 1 ≤ bl) (h2 : bl ≤ 3000) (x0 x1 x2 x3 x4 x5 : Nat) (g0 : x0 < 256) (g1 : x1 < 256) (g2 : x2 < 256) (g3 : x3 < 256) (g4 : x4 < 256) (g5 : x5 < 256) (ea : Addr) (eT : TypeId) (ef : Nat × Nat) :
    Con Tryz.prog G 3 #[.slice (some ⟨bb, ob, none⟩) bl bc, .agg #[vu8 x0, vu8 x1, vu8 x2, vu8 x3, vu8 x4, vu8 x5]] [blk bb (.cells cs Tb fr), EofA ea eT ef] (fun _ : Unit => .bool true) (fun _ => [blk bb (.cells cs Tb fr), EofA ea eT ef]) := by
  have hby := hb.lt
  have hc1 : (⟨3, 0, 2⟩ : Cfg).Ok := ⟨by decide, by decide⟩
  have hrb : ∀ j v, (u8s bs)[j]? = some v → cs[ob + j]? = some v := by
    intro j v hv
    have hj : j < bs.length := by have := (List.getElem?_eq_some_iff.1 hv).1; rwa [u8s_len] at this
    rw [(hb j hj).1]
    simp [u8s, hj] at hv ⊢
    exact hv
  have hrd7 : RdOk #[.int .u8 7] 0 [7] := by
    intro i hi
    obtain rfl : i = 0 := by simpa using hi
    exact ⟨rfl, by decide⟩
  refine Con.intro Tryz.func3 rfl (by kernel_rfl) Tryz.ntmps3 (Nat.le_of_ble_eq_true rfl) ?_
  intro F
  show JC _ _ _ _ _ _ [(0, _), (1, _)] _ [_, _, _]
  refine JC.seq (JC.region ?_)
  refine JO.boxA xe ?_; intro b3
  refine JO.py (Py.assign ev_const) ?_
  refine JO.nil (JX.code (JC.seq (JC.seq (JC.region ?_))))
  refine JO.py (Py.move xe) ?_
  refine JO.py (Py.lenS Tryz.underlying22 xe) ?_
  first | refine JO.py (Py.dec (Py.gtr xe ev_const) (by omega)) ?_ | refine JO.py (Py.undec (Py.gtr xe ev_const) (by omega)) ?_ | refine JO.py (Py.gtr xe ev_const) ?_
  refine JO.nil (JX.code ?_)
  first | refine JC.condF xe ?_ | refine JC.condF ((xe).trans (vbool (decide_eq_false (by omega)))) ?_
  refine JC.skip (JX.code (JC.seq (JC.seq (JC.region ?_))))
  refine JO.py (Py.move xe) ?_
  refine JO.py (Py.lenS Tryz.underlying22 xe) ?_
  first | refine JO.py (Py.dec (Py.eql xe ev_const) (by omega)) ?_ | refine JO.py (Py.undec (Py.eql xe ev_const) (by omega)) ?_ | refine JO.py (Py.eql xe ev_const) ?_
  refine JO.py (Py.move xe) ?_
  first | (refine JO.go rfl (Lk.ev (v := .bool false) xlk rfl) ?_; (refine JO.py (Py.move xe) ?_)) | refine JO.skipS rfl (Lk.ev (v := .bool true) xlk rfl) ?_
  first | (refine JO.go rfl (Lk.ev (v := .bool false) xlk rfl) ?_; (refine JO.py (Py.lenS Tryz.underlying22 xe) ?_)) | refine JO.skipS rfl (Lk.ev (v := .bool true) xlk rfl) ?_
  first | (refine JO.go rfl (Lk.ev (v := .bool false) xlk rfl) ?_; (first | refine JO.py (Py.dec (Py.gtr xe ev_const) (by omega)) ?_ | refine JO.py (Py.undec (Py.gtr xe ev_const) (by omega)) ?_ | refine JO.py (Py.gtr xe ev_const) ?_)) | refine JO.skipS rfl (Lk.ev (v := .bool true) xlk rfl) ?_
  first | refine JO.py (Py.pickT xe ev_const) ?_ | refine JO.py (Py.pickF xe xe) ?_
  refine JO.nil (JX.code ?_)
  first | refine JC.condF xe ?_ | refine JC.condF ((xe).trans (vbool (decide_eq_false (by omega)))) ?_
  refine JC.skip (JX.code (JC.seq (JC.region ?_)))
  refine JO.py (Py.loadA (vs := #[vu8 x0, vu8 x1, vu8 x2, vu8 x3, vu8 x4, vu8 x5]) agg24 xe xpick (by first | exact Nat.le_of_ble_eq_true rfl | assumption | (simp; omega) | fail) (by rfl)) ?_
  refine JO.call (Evs.cons xe Evs.nil) (way_con G x0 x1 x2 x3 x4 x5 g0 g1 g2 g3 g4 g5) xpkE ?_
  rintro ⟨⟨wf, wd, ws, c⟩, hc⟩
  show JO _ _ _ _ _ _ _ ((22, _) :: _) _ (_ :: _)
  dsimp only at hc ⊢
  refine JO.allocA zer26 ?_; intro b5
  refine JO.storeW siz26 xe xe (by first | rfl | (simp; done) | assumption | fail) (by first | (simp [Value.oneCell']; done) | assumption | fail) xpick (by first | rfl | (simp; done) | assumption | fail) ?_
  refine JO.nil (JX.code (JC.seq ?_))
  refine JC.regionM [(0, true), (1, true), (2, true), (3, true), (4, true), (5, true), (7, true), (8, true), (9, true), (10, true), (11, true), (12, true), (13, true), (14, true), (15, true), (6, false), (16, false), (17, false), (18, true), (19, true), (20, true), (21, true), (22, true)] mixed (by kernel_rfl) ?_
  refine JM.py Ao0 ⟨fun _ => Py.fld fld26_3 xe xoff⟩ ?_
  refine JM.ld Ao1 scal3 xe xpick xrow ?_
  refine JM.py Ao2 ⟨fun _ => Py.fld fld26_4 xe xoff⟩ ?_
  refine JM.ld Ao3 scal3 xe xpick xrow ?_
  refine JM.py Ao4 ⟨fun _ => Py.fld fld26_5 xe xoff⟩ ?_
  refine JM.ld Ao5 scal3 xe xpick xrow ?_
  refine JM.py Ao7 ⟨fun _ => Py.move xe⟩ ?_
  refine JM.py Ao8 ⟨fun _ => Py.lenS Tryz.underlying22 xe⟩ ?_
  refine JM.py Ao9 ⟨fun _ => Py.move xe⟩ ?_
  refine JM.py Ao10 ⟨fun _ => Py.fld fld26_3 xe xoff⟩ ?_
  refine JM.ld Ao11 scal3 xe xpick xrow ?_
  refine JM.py Ao12 ⟨fun _ => Py.fld fld26_4 xe xoff⟩ ?_
  refine JM.ld Ao13 scal3 xe xpick xrow ?_
  refine JM.py Ao14 ⟨fun _ => Py.fld fld26_5 xe xoff⟩ ?_
  refine JM.ld Ao15 scal3 xe xpick xrow ?_
  refine JM.eff Ao6 ?_
  refine JO.call (Evs.cons xe (Evs.cons xe (Evs.cons xe (Evs.cons ev_const Evs.nil)))) (propB_con G c hc 65536 (by decide)) xpkE ?_
  rintro pv
  show JO _ _ _ _ _ _ _ ((30, _) :: _) _ (_ :: _ :: _)
  refine JO.nil ?_
  refine JX.mix (Kept.keep (fun _ hw => hw.cell xpick xrow) (Kept.keep (fun _ hw => hw.cell xpick xrow) (Kept.keep (fun _ hw => hw.cell xpick xrow) (Kept.drop (Forced.step (by kernel_rfl)) (Kept.drop (Forced.step (by kernel_rfl)) (Kept.drop (Forced.step (by kernel_rfl)) Kept.nil)))))) ?_
  refine JM.eff Ao16 ?_
  refine JO.call (Evs.cons xe (Evs.cons xe (Evs.cons xe (Evs.cons xe Evs.nil)))) (lzma_con G bb ob bl bc cs Tb fr bs hb hbl (by omega) c hc) xpkE ?_
  rintro ⟨⟨lv, l⟩, hv, hr⟩
  show JO _ _ _ _ _ _ _ ((40, _) :: _) _ (_ :: _ :: _ :: _)
  dsimp only at hv hr ⊢
  obtain ⟨y1, y2, y3, y4, rb, ho, hs, hx, hxl⟩ := stream_of c hc bs l hv (by rw [hr, hbl]) (by omega) (by omega) hby
  rw [ho]
  refine JO.nil ?_
  refine JX.mix (Kept.drop (Forced.step (by kernel_rfl)) (Kept.drop (Forced.step (by kernel_rfl)) (Kept.drop (Forced.step (by kernel_rfl)) Kept.nil))) ?_
  refine JM.eff Ao17 ?_
  refine JO.call (Evs.cons xe (Evs.cons xe (Evs.cons xe Evs.nil))) (implLz_con G ea eT ef pv lv c bs l y1 y2 y3 y4 rb hs hx hxl bl hbl) xpkE ?_
  rintro gv
  show JO _ _ _ _ _ _ _ ((41, _) :: _) _ (_ :: _ :: _ :: _)
  refine JO.nil ?_
  refine JX.mix Kept.nil ?_
  refine JM.py Ao18 ⟨fun _ => Py.move xe⟩ ?_
  refine JM.py Ao19 ⟨fun _ => Py.extrI xe xix⟩ ?_
  refine JM.py Ao20 ⟨fun _ => Py.extrI xe xix⟩ ?_
  refine JM.py Ao21 ⟨fun _ => Py.assign xe⟩ ?_
  refine JM.py Ao22 ⟨fun _ => Py.assign xe⟩ ?_
  refine JM.nil (JX.code (JC.seq (JC.region ?_)))
  refine JO.call (Evs.cons ev_const (Evs.cons ev_const (Evs.cons ev_const (Evs.cons ev_const Evs.nil)))) (propB_con G ⟨3, 0, 2⟩ hc1 65536 (by decide)) xpkE ?_
  rintro pv2
  show JO _ _ _ _ _ _ _ ((45, _) :: _) _ (_ :: _ :: _)
  refine JO.bslice Tryz.underlying22 elm5 (Evs.cons ev_const Evs.nil) rfl rfl (by first | (simp [Value.oneCell']; done) | (simp only [List.mem_cons, List.not_mem_nil, or_false, forall_eq]; assumption) | fail) (by decide) ?_; intro b46
  refine JO.call (Evs.cons xe (Evs.cons ev_const (Evs.cons ev_const (Evs.cons ev_const Evs.nil)))) (lzma_con G b46 0 1 1 #[.int .u8 7] 5 (0, 0) [7] hrd7 rfl (by decide) ⟨3, 0, 2⟩ hc1) xpkE ?_
  rintro ⟨⟨lv2, l2⟩, hv2, hr2⟩
  show JO _ _ _ _ _ _ _ ((47, _) :: _) _ (_ :: _ :: _ :: _)
  dsimp only at hv2 hr2 ⊢
  obtain ⟨z1, z2, z3, z4, rb2, ho2, hs2, hx2, hxl2⟩ := stream_of ⟨3, 0, 2⟩ hc1 [7] l2 hv2 hr2 (by decide) (by decide) (by decide)
  rw [ho2]
  refine JO.call (Evs.cons xe (Evs.cons ev_const (Evs.cons xe Evs.nil))) (implLz_con G ea eT ef pv2 lv2 ⟨3, 0, 2⟩ [7] l2 z1 z2 z3 z4 rb2 hs2 hx2 hxl2 1 rfl) xpkE ?_
  rintro ov
  show JO _ _ _ _ _ _ _ ((48, _) :: _) _ (_ :: _ :: _ :: _)
  refine JO.py (Py.move xe) ?_
  refine JO.py (Py.extrI xe xix) ?_
  refine JO.py (Py.extrI xe xix) ?_
  refine JO.py (Py.assign xe) ?_
  refine JO.py (Py.assign xe) ?_
  refine JO.nil (JX.code (JC.seq (JC.region ?_)))
  refine JO.py (Py.move xe) ?_
  refine JO.py (Py.move xe) ?_
  first | (refine JO.go rfl (Lk.ev (v := .bool true) xlk rfl) ?_; (refine JO.py (Py.move xe) ?_)) | refine JO.skipS rfl (Lk.ev (v := .bool false) xlk rfl) ?_
  refine JO.rowV (e := 5) (v := ov) (xs := u8s [7]) xpick ?_
  rintro oa oc hov -
  rw [show (u8s [7]).length = 1 from rfl] at hov
  subst hov
  refine JO.unrow (e := 5) (v := gv) (xs := u8s bs) xpick (by intro h; have := congrArg List.length h; rw [u8s_len, hbl] at this; exact absurd this (by show ¬ bl = 0; omega)) ?_
  rintro gb gc gcur rfl hgr
  have hgg : ∀ j v, (u8s bs)[j]? = some v → gcur[0 + j]? = some v := fun j v h => by rw [Nat.zero_add]; exact hgr.get h
  rw [u8s_len, hbl]
  refine JO.go rfl (Lk.ev (v := .bool true) xlk rfl) ?_
  refine JO.py (Py.str Tryz.underlying22 Tryz.underlying5 Tryz.underlying9 xe hbl hby (Reads.cel xpick hgg)) ?_
  first | (refine JO.go rfl (Lk.ev (v := .bool true) xlk rfl) ?_; (refine JO.py (Py.move xe) ?_)) | refine JO.skipS rfl (Lk.ev (v := .bool false) xlk rfl) ?_
  refine JO.go rfl (Lk.ev (v := .bool true) xlk rfl) ?_
  refine JO.py (Py.str Tryz.underlying22 Tryz.underlying5 Tryz.underlying9 xe hbl hby (Reads.cel xpick hrb)) ?_
  refine JO.go rfl (Lk.ev (v := .bool true) xlk rfl) ?_
  refine JO.py (Py.streq (c := true) xe xe ((str_beq hby hby).trans (decide_eq_true rfl))) ?_
  first | refine JO.py (Py.pickT xe xe) ?_ | refine JO.py (Py.pickF xe ev_const) ?_
  refine JO.py (Py.move xe) ?_
  first | (refine JO.go rfl (Lk.ev (v := .bool true) xlk rfl) ?_; (refine JO.py (Py.move xe) ?_)) | refine JO.skipS rfl (Lk.ev (v := .bool false) xlk rfl) ?_
  first | (refine JO.go rfl (Lk.ev (v := .bool true) xlk rfl) ?_; (refine JO.py (Py.lenS Tryz.underlying22 xe) ?_)) | refine JO.skipS rfl (Lk.ev (v := .bool false) xlk rfl) ?_
  first | (refine JO.go rfl (Lk.ev (v := .bool true) xlk rfl) ?_; (first | refine JO.py (Py.dec (Py.eql xe ev_const) (by omega)) ?_ | refine JO.py (Py.undec (Py.eql xe ev_const) (by omega)) ?_ | refine JO.py (Py.eql xe ev_const) ?_)) | refine JO.skipS rfl (Lk.ev (v := .bool false) xlk rfl) ?_
  first | refine JO.py (Py.pickT xe xe) ?_ | refine JO.py (Py.pickF xe ev_const) ?_
  refine JO.py (Py.assign xe) ?_
  refine JO.nil (JX.code (JC.ret ?_))
  refine JX.end1 (Or.inl rfl) (()) Tryz.results3 ((xe).trans (by first | exact xval | (dsimp only; exact xval))) xpkE
end Go.Proofs.YtfpepghmbeoanaaGreatDoor
