/-
The decoder's state is made: Reset, newState.
The header of LZMA is read.
The header of LZMA is read: properties.
The header of LZMA is read.
Readers that read in full.
More laws: methods found, nil against what is held.
A reader of LZMA is made, and read.
An error is itself.
What buffers and readers of bytes read.
The header and the stream of LZMA, one behind the other.
Readers of parts of a stream.
-/
import Derived.Test.YtfpepghmbeoanaaGreatDoorQ08
import Derived.Test.YtfpepghmbeoanaaGreatDoorQ05
import Derived.Test.YtfpepghmbeoanaaGreatDoorQ03
import Derived.WalkKit
import Derived.LaidEql
import Derived.RowKitTokens
set_option linter.unusedSimpArgs false
set_option linter.unusedVariables false
section
open Go Go.RowKit
namespace Go.Proofs.YtfpepghmbeoanaaGreatDoor
open Lz
abbrev TabN : Tab := ⟨[], fun _ => 0, fun _ => 0⟩
theorem chD_none : ChD TabN M0 fun _ => .none := trivial
theorem lenSq_id (I : Lids) (r : Nat) : (lenSq I).id r = if r < 16 then I.l + r else if r < 32 then I.m + (r - 16) else I.h := rfl
theorem lenSq_bits (I : Lids) (r : Nat) : (lenSq I).bits r = if r < 32 then 3 else 8 := rfl
theorem distSq_id (r : Nat) : distSq.id r = if r < 4 then 6 + r else if r < 14 then 7 + r else 10 := rfl
theorem distSq_bits (r : Nat) : distSq.bits r = if r < 4 then 6 else if r < 14 then r / 2 - 1 else 4 := rfl
theorem mat_rng {r : Nat} (h : r < 33) : 24 ≤ (lenSq matI).id r ∧ (lenSq matI).id r ≤ 56 := by
  rw [lenSq_id]; unfold matI; dsimp only
  split
  · omega
  · split <;> omega
theorem rep_rng {r : Nat} (h : r < 33) : 57 ≤ (lenSq repI).id r ∧ (lenSq repI).id r ≤ 89 := by
  rw [lenSq_id]; unfold repI; dsimp only
  split
  · omega
  · split <;> omega
theorem dist_rng {r : Nat} (h : r < 15) : 6 ≤ distSq.id r ∧ distSq.id r ≤ 20 := by
  rw [distSq_id]
  split
  · omega
  · split <;> omega
theorem mat_inj {r s : Nat} (h : r < 33) (h2 : s < 33) (e : (lenSq matI).id r = (lenSq matI).id s) : r = s := by
  rw [lenSq_id, lenSq_id] at e; unfold matI at e; dsimp only at e
  split at e <;> split at e <;> (try split at e) <;> (try split at e) <;> omega
theorem rep_inj {r s : Nat} (h : r < 33) (h2 : s < 33) (e : (lenSq repI).id r = (lenSq repI).id s) : r = s := by
  rw [lenSq_id, lenSq_id] at e; unfold repI at e; dsimp only at e
  split at e <;> split at e <;> (try split at e) <;> (try split at e) <;> omega
theorem dist_inj {r s : Nat} (h : r < 15) (h2 : s < 15) (e : distSq.id r = distSq.id s) : r = s := by
  rw [distSq_id, distSq_id] at e
  split at e <;> split at e <;> (try split at e) <;> (try split at e) <;> omega
/-- What all tables are, one behind the other. -/
structure Made (c : Cfg) (T1 T2 T3 T4 : Tab) : Prop where
  i1 : ∀ id ∈ T1.ids, id = 21
  l1 : 21 ∈ T1.ids ∧ T1.len 21 = 768 * 2 ^ (c.lc + c.lp)
  n2 : NewQ (lenSq matI) T1 33 T2
  n3 : NewQ (lenSq repI) T2 33 T3
  n4 : NewQ distSq T3 15 T4
theorem Made.r2 {c : Cfg} {T1 T2 T3 T4 : Tab} (h : Made c T1 T2 T3 T4) : ∀ id ∈ T2.ids, 21 ≤ id ∧ id ≤ 56 ∧ id ≠ 22 ∧ id ≠ 23 := fun id hid => by
  rcases h.n2.ids id hid with h1 | ⟨r, hr, e⟩
  · have := h.i1 id h1; omega
  · have := mat_rng hr; omega
theorem Made.r3 {c : Cfg} {T1 T2 T3 T4 : Tab} (h : Made c T1 T2 T3 T4) : ∀ id ∈ T3.ids, 21 ≤ id ∧ id ≤ 89 ∧ id ≠ 22 ∧ id ≠ 23 := fun id hid => by
  rcases h.n3.ids id hid with h1 | ⟨r, hr, e⟩
  · have := h.r2 id h1; omega
  · have := rep_rng hr; omega
theorem Made.rows {c : Cfg} {T1 T2 T3 T4 : Tab} (h : Made c T1 T2 T3 T4) : RowsD T4 c := by
  have x34 := h.n4.ext
  have x24 := h.n3.ext.trans x34
  have x14 := h.n2.ext.trans x24
  refine ⟨h.n4.ok, fun id p n hp hm => ?_, fun i hi => ?_, ?_, fun i h1 h2 => ?_, ⟨x14.ids _ h.l1.1, (x14.len _ h.l1.1).trans h.l1.2⟩, ⟨fun i hi => ?_, fun i hi => ?_, ?_⟩, ⟨fun i hi => ?_, fun i hi => ?_, ?_⟩⟩
  · simp only [places, List.mem_cons, Prod.mk.injEq, List.not_mem_nil, or_false] at hp
    rcases h.n4.ids id hm with h1 | ⟨r, hr, e⟩
    · have := h.r3 id h1; omega
    · have := dist_rng hr; omega
  · have := h.n4.has i (by omega)
    rw [distSq_id, distSq_bits, if_pos hi, if_pos hi] at this
    exact this
  · have := h.n4.has 14 (by omega)
    exact this
  · have := h.n4.has i (by omega)
    rw [distSq_id, distSq_bits, if_neg (by omega), if_pos h2, if_neg (by omega), if_pos h2] at this
    exact this
  · have := h.n2.has i (by omega)
    rw [lenSq_id, lenSq_bits, if_pos hi, if_pos (by omega)] at this
    exact ⟨x24.ids _ this.1, (x24.len _ this.1).trans this.2⟩
  · have := h.n2.has (16 + i) (by omega)
    rw [lenSq_id, lenSq_bits, if_neg (by omega), if_pos (by omega), if_pos (by omega), show 16 + i - 16 = i by omega] at this
    exact ⟨x24.ids _ this.1, (x24.len _ this.1).trans this.2⟩
  · have := h.n2.has 32 (by omega)
    exact ⟨x24.ids _ this.1, (x24.len _ this.1).trans this.2⟩
  · have := h.n3.has i (by omega)
    rw [lenSq_id, lenSq_bits, if_pos hi, if_pos (by omega)] at this
    exact ⟨x34.ids _ this.1, (x34.len _ this.1).trans this.2⟩
  · have := h.n3.has (16 + i) (by omega)
    rw [lenSq_id, lenSq_bits, if_neg (by omega), if_pos (by omega), if_pos (by omega), show 16 + i - 16 = i by omega] at this
    exact ⟨x34.ids _ this.1, (x34.len _ this.1).trans this.2⟩
  · have := h.n3.has 32 (by omega)
    exact ⟨x34.ids _ this.1, (x34.len _ this.1).trans this.2⟩
theorem Made.cells {c : Cfg} {T1 T2 T3 T4 : Tab} (h : Made c T1 T2 T3 T4) :
    fa (gC distSq T4 573 15 (gC (lenSq repI) T3 (505 + 2) 33 (chC 505 (gC (lenSq matI) T2 (437 + 2) 33 (chC 437 fun j => if j = 436 then T1.sl 21 else p6 (z1 c (.int .u32 (2 ^ c.pb - 1 : Nat))) j))))) = stC T4 M0 c LzS.start.regs := by
  have x34 := h.n4.ext
  have x24 := h.n3.ext.trans x34
  have x14 := h.n2.ext.trans x24
  exact reset_eq c T1 T2 T3 T4 (x14.sl h.l1.1) (fun r hr => x24.sl (h.n2.has r hr).1) (fun r hr => x34.sl (h.n3.has r hr).1)
set_option maxRecDepth 100000 in
set_option maxHeartbeats 4000000 in
theorem reset_con (G : Gst) (c : Cfg) (hc : c.Ok) (sb : Nat) (m : Value) :
    Con Tryz.prog G 86 #[.pointer (some ⟨sb, 0, none⟩)] [cel sb 270 (fa (z1 c m))] (fun _ : {T : Tab // RowsD T c} => .tuple #[]) (fun T => [cel sb 270 (stC T.1 M0 c LzS.start.regs), ChD T.1 M0]) := by
  have hpb : 2 ^ c.pb ≤ 2 ^ 4 := Nat.pow_le_pow_right (by decide) hc.p
  have hp0 : 0 < 2 ^ c.pb := Nat.pow_pos (by decide)
  have hpi : (1 : Int) * 2 ^ c.pb = ((2 ^ c.pb : Nat) : Int) := by push_cast; simp
  obtain ⟨pp, hpp⟩ : ∃ x, 2 ^ c.pb = x := ⟨_, rfl⟩
  have hp := hc.p
  have s0 := fa_size (z1 c m)
  have s1 := fa_size (z1 c (.int .u32 (pp - 1 : Nat)))
  have o1 := fa_one (z1_one (c := c) (mask := .int .u32 (pp - 1 : Nat)) rfl)
  rw [hpp] at hpb hp0 hpi
  refine Con.intro Tryz.func86 rfl (by kernel_rfl) Tryz.ntmps86 (Nat.le_of_ble_eq_true rfl) ?_
  intro F
  show JC _ _ _ _ _ _ [(0, _)] _ [_, _]
  refine sR ?_
  refine oM ?_
  refine JO.py (Py.nil xe) ?_
  refine JO.py (Py.fld fld270_13 xe xoff) ?_
  refine JO.py (Py.loadA (vs := #[.int .i64 (c.lc : Int), .int .i64 (c.lp : Int), .int .i64 (c.pb : Int)]) agg196 xe xpick (by first | exact Nat.le_of_ble_eq_true rfl | assumption | (simp; omega) | fail) (by exact fa_ext3 (by decide))) ?_
  refine JO.allocA zer196 ?_; intro b2
  refine JO.storeW siz196 xe xe (by first | rfl | (simp; done) | assumption | fail) (by first | (simp [Value.oneCell']; done) | assumption | fail) xpick (by first | rfl | (simp; done) | assumption | fail) ?_
  refine nC (sR ?_)
  refine oM ?_
  refine JO.py (Py.loadA (vs := #[.int .i64 (c.lc : Int), .int .i64 (c.lp : Int), .int .i64 (c.pb : Int)]) agg196 xe xpick (by first | exact Nat.le_of_ble_eq_true rfl | assumption | (simp; omega) | fail) (rfl)) ?_
  refine JO.py (Py.fld fld196_2 xe xoff) ?_
  refine JO.py (Py.load scal3 xe xpick xrow) ?_
  first | refine JO.py (Py.conv cnv3_67 xe (w_u64 (by omega))) ?_ | refine JO.py (Py.conv cnv3_67 xe (m_u64 _)) ?_
  refine JO.py (Py.shlN c.pb (c := ((pp : Nat) : Int)) ev_const xe (by omega) (by simp only [IntKind.bits]; omega) (by rw [hpi]; exact w_u32 (by omega))) ?_
  refine JO.py (Py.to (Py.sub xe ev_const (w_u32 (by omega))) (v' := .int .u32 (pp - 1 : Nat)) (vint (by omega))) ?_
  refine JO.py (Py.build bld270 (Pts.cons xe (Pts.cons xe Pts.nil)) (Fl.agg rfl rfl (by rw [fa_size]; decide) (z1_fl1 c) (Fl.one rfl rfl (by rw [fa_size]; decide) (z1_fl2 c _) Fl.nil))) ?_
  refine JO.py (Py.nil xe) ?_
  refine JO.storeW siz270 xe xe (by first | rfl | (simp; done) | assumption | fail) (by first | (simp [Value.oneCell']; done) | assumption | fail) xpick (by first | rfl | (simp; done) | assumption | fail) ?_
  refine nC (JC.seq ?_)
  refine JC.free chD_none ?_
  refine JC.region ?_
  refine oM ?_
  refine JO.py (Py.nil xe) ?_
  refine JO.py (Py.fld fld270_1 xe xoff) ?_
  refine JO.py (Py.slcP Tryz.underlying251 siz250 xe (by decide)) ?_
  refine JO.call (Evs.cons xe Evs.nil) (initProb_con G sb 4 192 192 _ (by decide)) xpkE ?_
  rintro _
  show JO _ _ _ _ _ _ _ ((20, _) :: _) _ (_ :: _ :: _)
  refine nC (sR ?_)
  refine oM ?_
  refine JO.py (Py.nil xe) ?_
  refine JO.py (Py.fld fld270_3 xe xoff) ?_
  refine JO.py (Py.slcP Tryz.underlying252 siz250 xe (by decide)) ?_
  refine JO.call (Evs.cons xe Evs.nil) (initProb_con G sb 388 12 12 _ (by decide)) xpkE ?_
  rintro _
  show JO _ _ _ _ _ _ _ ((25, _) :: _) _ (_ :: _ :: _)
  refine nC (sR ?_)
  refine oM ?_
  refine JO.py (Py.nil xe) ?_
  refine JO.py (Py.fld fld270_4 xe xoff) ?_
  refine JO.py (Py.slcP Tryz.underlying252 siz250 xe (by decide)) ?_
  refine JO.call (Evs.cons xe Evs.nil) (initProb_con G sb 400 12 12 _ (by decide)) xpkE ?_
  rintro _
  show JO _ _ _ _ _ _ _ ((30, _) :: _) _ (_ :: _ :: _)
  refine nC (sR ?_)
  refine oM ?_
  refine JO.py (Py.nil xe) ?_
  refine JO.py (Py.fld fld270_5 xe xoff) ?_
  refine JO.py (Py.slcP Tryz.underlying252 siz250 xe (by decide)) ?_
  refine JO.call (Evs.cons xe Evs.nil) (initProb_con G sb 412 12 12 _ (by decide)) xpkE ?_
  rintro _
  show JO _ _ _ _ _ _ _ ((35, _) :: _) _ (_ :: _ :: _)
  refine nC (sR ?_)
  refine oM ?_
  refine JO.py (Py.nil xe) ?_
  refine JO.py (Py.fld fld270_6 xe xoff) ?_
  refine JO.py (Py.slcP Tryz.underlying252 siz250 xe (by decide)) ?_
  refine JO.call (Evs.cons xe Evs.nil) (initProb_con G sb 424 12 12 _ (by decide)) xpkE ?_
  rintro _
  show JO _ _ _ _ _ _ _ ((40, _) :: _) _ (_ :: _ :: _)
  refine nC (sR ?_)
  refine oM ?_
  refine JO.py (Py.nil xe) ?_
  refine JO.py (Py.fld fld270_2 xe xoff) ?_
  refine JO.py (Py.slcP Tryz.underlying251 siz250 xe (by decide)) ?_
  refine JO.call (Evs.cons xe Evs.nil) (initProb_con G sb 196 192 192 _ (by decide)) xpkE ?_
  rintro _
  show JO _ _ _ _ _ _ _ ((45, _) :: _) _ (_ :: _ :: _)
  refine nC (JC.seq ?_)
  refine JC.regionM [(0, true), (1, true), (2, true), (3, true), (4, true), (5, true), (6, true), (7, false)] mixed (by kernel_rfl) ?_
  refine JM.py ao ⟨fun _ => Py.move xe⟩ ?_
  refine JM.py ao ⟨fun _ => Py.nil xe⟩ ?_
  refine JM.py ao ⟨fun _ => Py.fld fld270_7 xe xoff⟩ ?_
  refine JM.py ao ⟨fun _ => Py.fld fld196_0 xe xoff⟩ ?_
  refine JM.ld ao scal3 xe xpick xrow ?_
  refine JM.py ao ⟨fun _ => Py.fld fld196_1 xe xoff⟩ ?_
  refine JM.ld ao scal3 xe xpick xrow ?_
  refine JM.eff ao ?_
  refine JO.call (Evs.cons xe (Evs.cons xe (Evs.cons xe Evs.nil))) (litInit_con G TabN ⟨List.nodup_nil⟩ c hc (by simp) sb 436 (by decide) _) xpkE ?_
  rintro ⟨T1, hT1, hx1, hi1, hl1⟩
  show JO _ _ _ _ _ _ _ ((53, _) :: _) _ (_ :: _ :: _ :: _)
  have hi1' : ∀ id ∈ T1.ids, id = 21 := fun id hid => (hi1 id hid).resolve_left (by simp)
  dsimp only
  refine JO.nil ?_
  refine JX.mix (Kept.drop (Forced.step (by kernel_rfl)) (Kept.drop (Forced.step (by kernel_rfl)) Kept.nil)) ?_
  refine JM.nil (JX.code (sR ?_))
  refine oM ?_
  refine JO.py (Py.nil xe) ?_
  refine JO.py (Py.fld fld270_8 xe xoff) ?_
  refine JO.call (Evs.cons xe Evs.nil) (lenInit_con G T1 hT1 matI ⟨fun r s h1 h2 e => mat_inj h1 h2 e, fun r hr hm => by have := hi1' _ hm; have := mat_rng hr; omega⟩ sb 437 (by decide) _) xpkE ?_
  rintro ⟨T2, hT2⟩
  show JO _ _ _ _ _ _ _ ((57, _) :: _) _ (_ :: _ :: _ :: _)
  dsimp only
  refine nC (sR ?_)
  refine oM ?_
  refine JO.py (Py.nil xe) ?_
  refine JO.py (Py.fld fld270_9 xe xoff) ?_
  have hq505 : SqOk (lenSq repI) 33 T2 := ⟨fun r s h1 h2 e => rep_inj h1 h2 e, fun r hr hm => by
    have h3 := rep_rng hr
    rcases hT2.ids _ hm with h | ⟨r', hr', e⟩
    · have := hi1' _ h; omega
    · have := mat_rng hr'; omega⟩
  refine JO.call (Evs.cons xe Evs.nil) (lenInit_con G T2 hT2.ok repI hq505 sb 505 (by decide) _) xpkE ?_
  rintro ⟨T3, hT3⟩
  show JO _ _ _ _ _ _ _ ((61, _) :: _) _ (_ :: _ :: _ :: _)
  dsimp only
  refine nC (JC.region ?_)
  refine oM ?_
  refine JO.py (Py.nil xe) ?_
  refine JO.py (Py.fld fld270_10 xe xoff) ?_
  have hq573 : SqOk (distSq) 15 T3 := ⟨fun r s h1 h2 e => dist_inj h1 h2 e, fun r hr hm => by
    have h3 := dist_rng hr
    rcases hT3.ids _ hm with h | ⟨r', hr', e⟩
    · rcases hT2.ids _ h with h | ⟨r', hr', e⟩
      · have := hi1' _ h; omega
      · have := mat_rng hr'; omega
    · have := rep_rng hr'; omega⟩
  refine JO.call (Evs.cons xe Evs.nil) (distInit_con G T3 hT3.ok hq573 sb 573 (by decide) _) xpkE ?_
  rintro ⟨T4, hT4⟩
  show JO _ _ _ _ _ _ _ ((65, _) :: _) _ (_ :: _ :: _ :: _)
  have hmade : Made c T1 T2 T3 T4 := ⟨hi1', hl1, hT2, hT3, hT4⟩
  have hcells := hmade.cells
  rw [hpp] at hcells
  dsimp only
  refine JO.as (A := cel sb 270 _) (A' := cel sb 270 (stC T4 M0 c LzS.start.regs)) xpick (cel_eq (by exact hcells)) ?_
  refine JO.nil ?_
  refine JX.end0 (Or.inr rfl) (⟨T4, hmade.rows⟩) Tryz.results86 rfl xpkE
set_option maxRecDepth 100000 in
set_option maxHeartbeats 4000000 in
theorem newState_con (G : Gst) (c : Cfg) (hc : c.Ok) :
    Con Tryz.prog G 72 #[.agg #[.int .i64 (c.lc : Int), .int .i64 (c.lp : Int), .int .i64 (c.pb : Int)]] [] (fun x : Nat × {T : Tab // RowsD T c} => .pointer (some ⟨x.1, 0, none⟩)) (fun x => [cel x.1 270 (stC x.2.1 M0 c LzS.start.regs), ChD x.2.1 M0]) := by
  refine Con.intro Tryz.func72 rfl (by kernel_rfl) Tryz.ntmps72 (Nat.le_of_ble_eq_true rfl) ?_
  intro F
  show JC _ _ _ _ _ _ [(0, _)] _ [_]
  refine sR ?_
  refine JO.boxA xe ?_; intro b1
  refine oC ?_
  refine nC (sR ?_)
  refine JO.py (Py.loadA (vs := #[.int .i64 (c.lc : Int), .int .i64 (c.lp : Int), .int .i64 (c.pb : Int)]) agg196 xe xpick (by first | exact Nat.le_of_ble_eq_true rfl | assumption | (simp; omega) | fail) (rfl)) ?_
  refine JO.py (Py.build bld270 (Pts.cons xe Pts.nil) (Fl.agg rfl rfl (by rw [fa_size]; decide) (z1_fl1 c) Fl.nil)) ?_
  refine JO.boxA xe ?_; intro b6
  refine oA ?_
  refine nC (sR ?_)
  refine oM ?_
  refine JO.call (Evs.cons xe Evs.nil) (reset_con G c hc b6 (.int .u32 0)) xpkE ?_
  rintro ⟨T, hT⟩
  show JO _ _ _ _ _ _ _ ((8, _) :: _) _ (_ :: _ :: _ :: _)
  refine nC (sR ?_)
  refine oM ?_
  refine oA ?_
  refine nC (JC.ret ?_)
  refine JX.end1 (Or.inl rfl) ((b6, ⟨T, hT⟩)) Tryz.results72 ((xe).trans (by first | exact xval | (dsimp only; exact xval))) xpkE
end Go.Proofs.YtfpepghmbeoanaaGreatDoor
end

section
open Go Go.RowKit
namespace Go.Proofs.YtfpepghmbeoanaaGreatDoor
open Lz
theorem fill_con (G : Gst) (b : Nat) : Con Tryz.prog G 88 #[.pointer (some ⟨b, 0, none⟩)] [cel b 166 #[.int .i64 0]] (fun _ : Unit => .tuple #[]) (fun _ => [cel b 166 #[.int .i64 2147483647]]) := by
  refine Con.intro Tryz.func88 rfl (by kernel_rfl) Tryz.ntmps88 (Nat.le_of_ble_eq_true rfl) ?_
  intro F
  show JC _ _ _ _ _ _ [(0, _)] _ [_, _]
  refine sR ?_
  refine oM ?_
  refine JO.py (Py.nil xe) ?_
  refine JO.py (Py.fld fld166_0 xe xoff) ?_
  refine JO.py (Py.load scal3 xe xpick xrow) ?_
  first | refine oD (Py.eql xe ev_const) ?_ | refine oU (Py.eql xe ev_const) ?_ | refine JO.py (Py.eql xe ev_const) ?_
  refine nC ?_
  refine cT ?_
  refine JC.region ?_
  refine oM ?_
  refine JO.py (Py.nil xe) ?_
  refine JO.py (Py.fld fld166_0 xe xoff) ?_
  refine JO.store siz3 xe ev_const (by first | rfl | assumption) xpick xsize xnorm ?_
  refine JO.nil ?_
  refine JX.end0 (Or.inr rfl) (()) Tryz.results88 rfl xpkE
theorem verify_con (G : Gst) (b : Nat) : Con Tryz.prog G 69 #[.pointer (some ⟨b, 0, none⟩)] [cel b 166 #[.int .i64 0]] (fun _ : Unit => .nilIface) (fun _ => [cel b 166 #[.int .i64 2147483647]]) := by
  refine Con.intro Tryz.func69 rfl (by kernel_rfl) Tryz.ntmps69 (Nat.le_of_ble_eq_true rfl) ?_
  intro F
  show JC _ _ _ _ _ _ [(0, _)] _ [_, _]
  refine sR ?_
  refine oC ?_
  refine nC (sR ?_)
  refine oM ?_
  refine JO.call (Evs.cons xe Evs.nil) (fill_con G b) xpkE ?_
  rintro _
  show JO _ _ _ _ _ _ _ ((4, _) :: _) _ (_ :: _ :: _)
  refine nC (JC.seq (sR ?_))
  refine oM ?_
  refine JO.py (Py.nil xe) ?_
  refine JO.py (Py.fld fld166_0 xe xoff) ?_
  refine JO.py (Py.load scal3 xe xpick xrow) ?_
  first | refine oD (Py.leq ev_const xe) ?_ | refine oU (Py.leq ev_const xe) ?_ | refine JO.py (Py.leq ev_const xe) ?_
  refine oM ?_
  first | (refine gT ?_; (refine oM ?_)) | refine kF ?_
  first | (refine gT ?_; (refine JO.py (Py.nil xe) ?_)) | refine kF ?_
  first | (refine gT ?_; (refine JO.py (Py.fld fld166_0 xe xoff) ?_)) | refine kF ?_
  first | (refine gT ?_; (refine JO.py (Py.load scal3 xe xpick xrow) ?_)) | refine kF ?_
  first | (refine gT ?_; (first | refine oD (Py.leq xe ev_const) ?_ | refine oU (Py.leq xe ev_const) ?_ | refine JO.py (Py.leq xe ev_const) ?_)) | refine kF ?_
  first | refine JO.py (Py.pickT xe xe) ?_ | refine JO.py (Py.pickF xe ev_const) ?_
  refine JO.py (Py.not xe (by first | with_reducible exact not_t | with_reducible exact not_f | exact rfl)) ?_
  refine nC ?_
  refine cF ?_
  refine JC.skip (JX.code (sR ?_))
  refine oC ?_
  refine nC (JC.ret ?_)
  refine JX.end1 (Or.inl rfl) (()) Tryz.results69 ((xe).trans (by first | exact xval | (dsimp only; exact xval))) xpkE
theorem or_int {p q : Int} {x y z : Nat} (hp : p = x) (hq : q = y) (h : x ||| y = z) : ((p.toNat ||| q.toNat : Nat) : Int) = (z : Int) := by
  subst hp hq h; rfl
theorem or_at {k a b x y : Nat} (h : y < 2 ^ k) (hx : x = a * 2 ^ k) : x ||| y = x + y := by
  subst hx; exact or_hi h
set_option maxRecDepth 100000 in
set_option maxHeartbeats 2000000 in
theorem u32LE_con (G : Gst) (b o m mc : Nat) (T : TypeId) (fr : Nat × Nat) (ps : Array Value) (x0 x1 x2 x3 : Nat) (hm : 4 ≤ m ∧ m ≤ 1000000) (h0 : ps[o + 0]? = some (vu8 x0) ∧ x0 < 256) (h1 : ps[o + 1]? = some (vu8 x1) ∧ x1 < 256) (h2 : ps[o + 2]? = some (vu8 x2) ∧ x2 < 256) (h3 : ps[o + 3]? = some (vu8 x3) ∧ x3 < 256) :
    Con Tryz.prog G 90 #[.slice (some ⟨b, o, none⟩) m mc] [blk b (.cells ps T fr)] (fun _ : Unit => .int .u32 (1 * x0 + 256 * x1 + 65536 * x2 + 16777216 * x3 : Nat)) (fun _ => [blk b (.cells ps T fr)]) := by
  obtain ⟨g0, l0⟩ := h0
  obtain ⟨g1, l1⟩ := h1
  obtain ⟨g2, l2⟩ := h2
  obtain ⟨g3, l3⟩ := h3
  refine Con.intro Tryz.func90 rfl (by kernel_rfl) Tryz.ntmps90 (Nat.le_of_ble_eq_true rfl) ?_
  intro F
  show JC _ _ _ _ _ _ [(0, _)] _ [_, _]
  have e2 : (16777216 * x3) ||| (65536 * x2) = 16777216 * x3 + 65536 * x2 := by
    have := or_at (k := 24) (a := 1 * x3) (x := 16777216 * x3) (y := 65536 * x2) (b := 0) (by omega) (by omega)
    rw [this]
  refine sR ?_
  refine oC ?_
  refine nC (sR ?_)
  refine oM ?_
  refine JO.py (Py.idxS Tryz.underlying22 siz5 xe ev_const (by omega) xidx xmult) ?_
  refine JO.py (Py.load scal5 xe xpick xrow) ?_
  first | refine JO.py (Py.conv cnv5_45 xe (w_u32 (by omega))) ?_ | refine JO.py (Py.conv cnv5_45 xe (m_u32 _)) ?_
  first | refine JO.py (Py.shl 24 16777216 xe ev_const rfl (by decide) (by decide) (w_u32 (by omega))) ?_ | refine JO.py (Py.shl 24 16777216 xe ev_const rfl (by decide) (by decide) (m_u32 _)) ?_
  refine oA ?_
  refine nC (sR ?_)
  refine oM ?_
  refine oM ?_
  refine JO.py (Py.idxS Tryz.underlying22 siz5 xe ev_const (by omega) xidx xmult) ?_
  refine JO.py (Py.load scal5 xe xpick xrow) ?_
  first | refine JO.py (Py.conv cnv5_45 xe (w_u32 (by omega))) ?_ | refine JO.py (Py.conv cnv5_45 xe (m_u32 _)) ?_
  first | refine JO.py (Py.shl 16 65536 xe ev_const rfl (by decide) (by decide) (w_u32 (by omega))) ?_ | refine JO.py (Py.shl 16 65536 xe ev_const rfl (by decide) (by decide) (m_u32 _)) ?_
  refine JO.py (Py.to (Py.orN xe xe (r_u32 (by omega)) (r_u32 (by omega)) (by decide)) (v' := .int .u32 (16777216 * x3 + 65536 * x2 : Nat)) (vint (or_int (by omega) (by omega) e2))) ?_
  have e1 : (16777216 * x3 + 65536 * x2) ||| (256 * x1) = 16777216 * x3 + 65536 * x2 + 256 * x1 := by
    have := or_at (k := 16) (a := 256 * x3 + 1 * x2) (x := 16777216 * x3 + 65536 * x2) (y := 256 * x1) (b := 0) (by omega) (by omega)
    rw [this]
  refine oA ?_
  refine nC (sR ?_)
  refine oM ?_
  refine oM ?_
  refine JO.py (Py.idxS Tryz.underlying22 siz5 xe ev_const (by omega) xidx xmult) ?_
  refine JO.py (Py.load scal5 xe xpick xrow) ?_
  first | refine JO.py (Py.conv cnv5_45 xe (w_u32 (by omega))) ?_ | refine JO.py (Py.conv cnv5_45 xe (m_u32 _)) ?_
  first | refine JO.py (Py.shl 8 256 xe ev_const rfl (by decide) (by decide) (w_u32 (by omega))) ?_ | refine JO.py (Py.shl 8 256 xe ev_const rfl (by decide) (by decide) (m_u32 _)) ?_
  refine JO.py (Py.to (Py.orN xe xe (r_u32 (by omega)) (r_u32 (by omega)) (by decide)) (v' := .int .u32 (16777216 * x3 + 65536 * x2 + 256 * x1 : Nat)) (vint (or_int (by omega) (by omega) e1))) ?_
  have e0 : (16777216 * x3 + 65536 * x2 + 256 * x1) ||| (1 * x0) = 16777216 * x3 + 65536 * x2 + 256 * x1 + 1 * x0 := by
    have := or_at (k := 8) (a := 65536 * x3 + 256 * x2 + 1 * x1) (x := 16777216 * x3 + 65536 * x2 + 256 * x1) (y := 1 * x0) (b := 0) (by omega) (by omega)
    rw [this]
  refine oA ?_
  refine nC (sR ?_)
  refine oM ?_
  refine oM ?_
  refine JO.py (Py.idxS Tryz.underlying22 siz5 xe ev_const (by omega) xidx xmult) ?_
  refine JO.py (Py.load scal5 xe xpick xrow) ?_
  first | refine JO.py (Py.conv cnv5_45 xe (w_u32 (by omega))) ?_ | refine JO.py (Py.conv cnv5_45 xe (m_u32 _)) ?_
  refine JO.py (Py.to (Py.orN xe xe (r_u32 (by omega)) (r_u32 (by omega)) (by decide)) (v' := .int .u32 (16777216 * x3 + 65536 * x2 + 256 * x1 + 1 * x0 : Nat)) (vint (or_int (by omega) (by omega) e0))) ?_
  refine oA ?_
  refine nC (sR ?_)
  refine oM ?_
  refine oA ?_
  refine nC (JC.ret ?_)
  refine JX.end1 (Or.inl rfl) (()) Tryz.results90 ((xe).trans (by exact vint (by omega))) xpkE
set_option maxRecDepth 100000 in
set_option maxHeartbeats 2000000 in
theorem u64LE_con (G : Gst) (b o m mc : Nat) (T : TypeId) (fr : Nat × Nat) (ps : Array Value) (x0 x1 x2 x3 x4 x5 x6 x7 : Nat) (hm : 8 ≤ m ∧ m ≤ 1000000) (h0 : ps[o + 0]? = some (vu8 x0) ∧ x0 < 256) (h1 : ps[o + 1]? = some (vu8 x1) ∧ x1 < 256) (h2 : ps[o + 2]? = some (vu8 x2) ∧ x2 < 256) (h3 : ps[o + 3]? = some (vu8 x3) ∧ x3 < 256) (h4 : ps[o + 4]? = some (vu8 x4) ∧ x4 < 256) (h5 : ps[o + 5]? = some (vu8 x5) ∧ x5 < 256) (h6 : ps[o + 6]? = some (vu8 x6) ∧ x6 < 256) (h7 : ps[o + 7]? = some (vu8 x7) ∧ x7 < 256) :
    Con Tryz.prog G 91 #[.slice (some ⟨b, o, none⟩) m mc] [blk b (.cells ps T fr)] (fun _ : Unit => .int .u64 (1 * x0 + 256 * x1 + 65536 * x2 + 16777216 * x3 + 4294967296 * x4 + 1099511627776 * x5 + 281474976710656 * x6 + 72057594037927936 * x7 : Nat)) (fun _ => [blk b (.cells ps T fr)]) := by
  obtain ⟨g0, l0⟩ := h0
  obtain ⟨g1, l1⟩ := h1
  obtain ⟨g2, l2⟩ := h2
  obtain ⟨g3, l3⟩ := h3
  obtain ⟨g4, l4⟩ := h4
  obtain ⟨g5, l5⟩ := h5
  obtain ⟨g6, l6⟩ := h6
  obtain ⟨g7, l7⟩ := h7
  refine Con.intro Tryz.func91 rfl (by kernel_rfl) Tryz.ntmps91 (Nat.le_of_ble_eq_true rfl) ?_
  intro F
  show JC _ _ _ _ _ _ [(0, _)] _ [_, _]
  have e6 : (72057594037927936 * x7) ||| (281474976710656 * x6) = 72057594037927936 * x7 + 281474976710656 * x6 := by
    have := or_at (k := 56) (a := 1 * x7) (x := 72057594037927936 * x7) (y := 281474976710656 * x6) (b := 0) (by omega) (by omega)
    rw [this]
  refine sR ?_
  refine oC ?_
  refine nC (sR ?_)
  refine oM ?_
  refine JO.py (Py.idxS Tryz.underlying22 siz5 xe ev_const (by omega) xidx xmult) ?_
  refine JO.py (Py.load scal5 xe xpick xrow) ?_
  first | refine JO.py (Py.conv cnv5_43 xe (w_u64 (by omega))) ?_ | refine JO.py (Py.conv cnv5_43 xe (m_u64 _)) ?_
  first | refine JO.py (Py.shl 56 72057594037927936 xe ev_const rfl (by decide) (by decide) (w_u64 (by omega))) ?_ | refine JO.py (Py.shl 56 72057594037927936 xe ev_const rfl (by decide) (by decide) (m_u64 _)) ?_
  refine oA ?_
  refine nC (sR ?_)
  refine oM ?_
  refine oM ?_
  refine JO.py (Py.idxS Tryz.underlying22 siz5 xe ev_const (by omega) xidx xmult) ?_
  refine JO.py (Py.load scal5 xe xpick xrow) ?_
  first | refine JO.py (Py.conv cnv5_43 xe (w_u64 (by omega))) ?_ | refine JO.py (Py.conv cnv5_43 xe (m_u64 _)) ?_
  first | refine JO.py (Py.shl 48 281474976710656 xe ev_const rfl (by decide) (by decide) (w_u64 (by omega))) ?_ | refine JO.py (Py.shl 48 281474976710656 xe ev_const rfl (by decide) (by decide) (m_u64 _)) ?_
  refine JO.py (Py.to (Py.orN xe xe (r_u64 (by omega)) (r_u64 (by omega)) (by decide)) (v' := .int .u64 (72057594037927936 * x7 + 281474976710656 * x6 : Nat)) (vint (or_int (by omega) (by omega) e6))) ?_
  have e5 : (72057594037927936 * x7 + 281474976710656 * x6) ||| (1099511627776 * x5) = 72057594037927936 * x7 + 281474976710656 * x6 + 1099511627776 * x5 := by
    have := or_at (k := 48) (a := 256 * x7 + 1 * x6) (x := 72057594037927936 * x7 + 281474976710656 * x6) (y := 1099511627776 * x5) (b := 0) (by omega) (by omega)
    rw [this]
  refine oA ?_
  refine nC (sR ?_)
  refine oM ?_
  refine oM ?_
  refine JO.py (Py.idxS Tryz.underlying22 siz5 xe ev_const (by omega) xidx xmult) ?_
  refine JO.py (Py.load scal5 xe xpick xrow) ?_
  first | refine JO.py (Py.conv cnv5_43 xe (w_u64 (by omega))) ?_ | refine JO.py (Py.conv cnv5_43 xe (m_u64 _)) ?_
  first | refine JO.py (Py.shl 40 1099511627776 xe ev_const rfl (by decide) (by decide) (w_u64 (by omega))) ?_ | refine JO.py (Py.shl 40 1099511627776 xe ev_const rfl (by decide) (by decide) (m_u64 _)) ?_
  refine JO.py (Py.to (Py.orN xe xe (r_u64 (by omega)) (r_u64 (by omega)) (by decide)) (v' := .int .u64 (72057594037927936 * x7 + 281474976710656 * x6 + 1099511627776 * x5 : Nat)) (vint (or_int (by omega) (by omega) e5))) ?_
  have e4 : (72057594037927936 * x7 + 281474976710656 * x6 + 1099511627776 * x5) ||| (4294967296 * x4) = 72057594037927936 * x7 + 281474976710656 * x6 + 1099511627776 * x5 + 4294967296 * x4 := by
    have := or_at (k := 40) (a := 65536 * x7 + 256 * x6 + 1 * x5) (x := 72057594037927936 * x7 + 281474976710656 * x6 + 1099511627776 * x5) (y := 4294967296 * x4) (b := 0) (by omega) (by omega)
    rw [this]
  refine oA ?_
  refine nC (sR ?_)
  refine oM ?_
  refine oM ?_
  refine JO.py (Py.idxS Tryz.underlying22 siz5 xe ev_const (by omega) xidx xmult) ?_
  refine JO.py (Py.load scal5 xe xpick xrow) ?_
  first | refine JO.py (Py.conv cnv5_43 xe (w_u64 (by omega))) ?_ | refine JO.py (Py.conv cnv5_43 xe (m_u64 _)) ?_
  first | refine JO.py (Py.shl 32 4294967296 xe ev_const rfl (by decide) (by decide) (w_u64 (by omega))) ?_ | refine JO.py (Py.shl 32 4294967296 xe ev_const rfl (by decide) (by decide) (m_u64 _)) ?_
  refine JO.py (Py.to (Py.orN xe xe (r_u64 (by omega)) (r_u64 (by omega)) (by decide)) (v' := .int .u64 (72057594037927936 * x7 + 281474976710656 * x6 + 1099511627776 * x5 + 4294967296 * x4 : Nat)) (vint (or_int (by omega) (by omega) e4))) ?_
  have e3 : (72057594037927936 * x7 + 281474976710656 * x6 + 1099511627776 * x5 + 4294967296 * x4) ||| (16777216 * x3) = 72057594037927936 * x7 + 281474976710656 * x6 + 1099511627776 * x5 + 4294967296 * x4 + 16777216 * x3 := by
    have := or_at (k := 32) (a := 16777216 * x7 + 65536 * x6 + 256 * x5 + 1 * x4) (x := 72057594037927936 * x7 + 281474976710656 * x6 + 1099511627776 * x5 + 4294967296 * x4) (y := 16777216 * x3) (b := 0) (by omega) (by omega)
    rw [this]
  refine oA ?_
  refine nC (sR ?_)
  refine oM ?_
  refine oM ?_
  refine JO.py (Py.idxS Tryz.underlying22 siz5 xe ev_const (by omega) xidx xmult) ?_
  refine JO.py (Py.load scal5 xe xpick xrow) ?_
  first | refine JO.py (Py.conv cnv5_43 xe (w_u64 (by omega))) ?_ | refine JO.py (Py.conv cnv5_43 xe (m_u64 _)) ?_
  first | refine JO.py (Py.shl 24 16777216 xe ev_const rfl (by decide) (by decide) (w_u64 (by omega))) ?_ | refine JO.py (Py.shl 24 16777216 xe ev_const rfl (by decide) (by decide) (m_u64 _)) ?_
  refine JO.py (Py.to (Py.orN xe xe (r_u64 (by omega)) (r_u64 (by omega)) (by decide)) (v' := .int .u64 (72057594037927936 * x7 + 281474976710656 * x6 + 1099511627776 * x5 + 4294967296 * x4 + 16777216 * x3 : Nat)) (vint (or_int (by omega) (by omega) e3))) ?_
  have e2 : (72057594037927936 * x7 + 281474976710656 * x6 + 1099511627776 * x5 + 4294967296 * x4 + 16777216 * x3) ||| (65536 * x2) = 72057594037927936 * x7 + 281474976710656 * x6 + 1099511627776 * x5 + 4294967296 * x4 + 16777216 * x3 + 65536 * x2 := by
    have := or_at (k := 24) (a := 4294967296 * x7 + 16777216 * x6 + 65536 * x5 + 256 * x4 + 1 * x3) (x := 72057594037927936 * x7 + 281474976710656 * x6 + 1099511627776 * x5 + 4294967296 * x4 + 16777216 * x3) (y := 65536 * x2) (b := 0) (by omega) (by omega)
    rw [this]
  refine oA ?_
  refine nC (sR ?_)
  refine oM ?_
  refine oM ?_
  refine JO.py (Py.idxS Tryz.underlying22 siz5 xe ev_const (by omega) xidx xmult) ?_
  refine JO.py (Py.load scal5 xe xpick xrow) ?_
  first | refine JO.py (Py.conv cnv5_43 xe (w_u64 (by omega))) ?_ | refine JO.py (Py.conv cnv5_43 xe (m_u64 _)) ?_
  first | refine JO.py (Py.shl 16 65536 xe ev_const rfl (by decide) (by decide) (w_u64 (by omega))) ?_ | refine JO.py (Py.shl 16 65536 xe ev_const rfl (by decide) (by decide) (m_u64 _)) ?_
  refine JO.py (Py.to (Py.orN xe xe (r_u64 (by omega)) (r_u64 (by omega)) (by decide)) (v' := .int .u64 (72057594037927936 * x7 + 281474976710656 * x6 + 1099511627776 * x5 + 4294967296 * x4 + 16777216 * x3 + 65536 * x2 : Nat)) (vint (or_int (by omega) (by omega) e2))) ?_
  have e1 : (72057594037927936 * x7 + 281474976710656 * x6 + 1099511627776 * x5 + 4294967296 * x4 + 16777216 * x3 + 65536 * x2) ||| (256 * x1) = 72057594037927936 * x7 + 281474976710656 * x6 + 1099511627776 * x5 + 4294967296 * x4 + 16777216 * x3 + 65536 * x2 + 256 * x1 := by
    have := or_at (k := 16) (a := 1099511627776 * x7 + 4294967296 * x6 + 16777216 * x5 + 65536 * x4 + 256 * x3 + 1 * x2) (x := 72057594037927936 * x7 + 281474976710656 * x6 + 1099511627776 * x5 + 4294967296 * x4 + 16777216 * x3 + 65536 * x2) (y := 256 * x1) (b := 0) (by omega) (by omega)
    rw [this]
  refine oA ?_
  refine nC (sR ?_)
  refine oM ?_
  refine oM ?_
  refine JO.py (Py.idxS Tryz.underlying22 siz5 xe ev_const (by omega) xidx xmult) ?_
  refine JO.py (Py.load scal5 xe xpick xrow) ?_
  first | refine JO.py (Py.conv cnv5_43 xe (w_u64 (by omega))) ?_ | refine JO.py (Py.conv cnv5_43 xe (m_u64 _)) ?_
  first | refine JO.py (Py.shl 8 256 xe ev_const rfl (by decide) (by decide) (w_u64 (by omega))) ?_ | refine JO.py (Py.shl 8 256 xe ev_const rfl (by decide) (by decide) (m_u64 _)) ?_
  refine JO.py (Py.to (Py.orN xe xe (r_u64 (by omega)) (r_u64 (by omega)) (by decide)) (v' := .int .u64 (72057594037927936 * x7 + 281474976710656 * x6 + 1099511627776 * x5 + 4294967296 * x4 + 16777216 * x3 + 65536 * x2 + 256 * x1 : Nat)) (vint (or_int (by omega) (by omega) e1))) ?_
  have e0 : (72057594037927936 * x7 + 281474976710656 * x6 + 1099511627776 * x5 + 4294967296 * x4 + 16777216 * x3 + 65536 * x2 + 256 * x1) ||| (1 * x0) = 72057594037927936 * x7 + 281474976710656 * x6 + 1099511627776 * x5 + 4294967296 * x4 + 16777216 * x3 + 65536 * x2 + 256 * x1 + 1 * x0 := by
    have := or_at (k := 8) (a := 281474976710656 * x7 + 1099511627776 * x6 + 4294967296 * x5 + 16777216 * x4 + 65536 * x3 + 256 * x2 + 1 * x1) (x := 72057594037927936 * x7 + 281474976710656 * x6 + 1099511627776 * x5 + 4294967296 * x4 + 16777216 * x3 + 65536 * x2 + 256 * x1) (y := 1 * x0) (b := 0) (by omega) (by omega)
    rw [this]
  refine oA ?_
  refine nC (sR ?_)
  refine oM ?_
  refine oM ?_
  refine JO.py (Py.idxS Tryz.underlying22 siz5 xe ev_const (by omega) xidx xmult) ?_
  refine JO.py (Py.load scal5 xe xpick xrow) ?_
  first | refine JO.py (Py.conv cnv5_43 xe (w_u64 (by omega))) ?_ | refine JO.py (Py.conv cnv5_43 xe (m_u64 _)) ?_
  refine JO.py (Py.to (Py.orN xe xe (r_u64 (by omega)) (r_u64 (by omega)) (by decide)) (v' := .int .u64 (72057594037927936 * x7 + 281474976710656 * x6 + 1099511627776 * x5 + 4294967296 * x4 + 16777216 * x3 + 65536 * x2 + 256 * x1 + 1 * x0 : Nat)) (vint (or_int (by omega) (by omega) e0))) ?_
  refine oA ?_
  refine nC (sR ?_)
  refine oM ?_
  refine oA ?_
  refine nC (JC.ret ?_)
  refine JX.end1 (Or.inl rfl) (()) Tryz.results91 ((xe).trans (by exact vint (by omega))) xpkE
end Go.Proofs.YtfpepghmbeoanaaGreatDoor
end

section
open Go Go.RowKit
namespace Go.Proofs.YtfpepghmbeoanaaGreatDoor
open Lz
section
variable {P : Program} {G : Gst} {n : Nat} {base : Nat → Value} {L : List (Nat × Value)} {As r r' : List Asn}
theorem JX.endC2 {fn : Func} {ι : Type} {v : ι → Value} {Post : ι → List Asn} {F : Asn} {e : Exit} {t u b k : Nat} {ty : TypeId} {T : TypeId} {fr : Nat × Nat} {cs vs : Array Value} {v2 : Value} (he : e = .ret ∨ e = .normal) (i : ι) (hr : fn.results = #[.cell t ty, .tmp u]) (ht : ev n base L (.tmp t) = .pointer (some ⟨b, 0, none⟩)) (hu : ev n base L (.tmp u) = v2) (hs : Aggr P ty k)
    (q0 : Pick (blk b (.cells cs T fr)) As r) (hk : k ≤ cs.size) (hv : cs.extract 0 k = vs) (hv2 : Value.tuple #[.agg vs, v2] = v i) (q : Picks (Post i ++ [F]) As r') :
    JX G (bodyPost P fn fun e w' => ∃ i, e = .returned (v i) ∧ Sat G w' (Post i ++ [F])) e n base L [] As :=
  ⟨fun w hw => bodyPost_any he i (u := .tuple #[.agg vs, v2]) (by
    have hc := run_loadCells (P := P) (hw.block_of q0) 0 k (by omega)
    rw [Nat.zero_add, hv] at hc
    have hg := getD_ev (D := []) (n := n) (base := base) (L := L) t
    have hg2 : (frm n base L []).tmps[t]?.getD undef = .pointer (some ⟨b, 0, none⟩) := by rw [← ht, ← hg]; simp
    have hh := getD_ev (D := []) (n := n) (base := base) (L := L) u
    have hh2 : (frm n base L []).tmps[u]?.getD undef = v2 := by rw [← hu, ← hh]; simp
    simp only [results, hr]
    simp [hg2, hh2, asAddr, loadVar, (hs w).1, (hs w).2, hc]) hv2 q hw⟩
end
set_option maxRecDepth 100000 in
theorem props_con (G : Gst) (c : Cfg) (hc : c.Ok) (code : Nat) (h : code = c.lc + 9 * (c.lp + 5 * c.pb)) :
    Con Tryz.prog G 89 #[.int .u8 (code : Int)] [] (fun _ : Unit => .tuple #[.agg #[.int .i64 (c.lc : Int), .int .i64 (c.lp : Int), .int .i64 (c.pb : Int)], .nilIface]) (fun _ => []) := by
  have h1 := hc.l
  have h2 := hc.p
  refine Con.intro Tryz.func89 rfl (by kernel_rfl) Tryz.ntmps89 (Nat.le_of_ble_eq_true rfl) ?_
  intro F
  show JC _ _ _ _ _ _ [(0, _)] _ [_]
  refine sR ?_
  refine JO.allocA zer196 ?_; intro b2
  refine oC ?_
  refine nC (JC.seq (sR ?_))
  refine oM ?_
  first | refine oD (Py.gtr xe ev_const) ?_ | refine oU (Py.gtr xe ev_const) ?_ | refine JO.py (Py.gtr xe ev_const) ?_
  refine nC ?_
  refine cF ?_
  refine JC.skip (JX.code (sR ?_))
  refine oM ?_
  refine JO.py (Py.rem xe ev_const (by omega) (by omega)) ?_
  first | refine JO.py (Py.conv cnv5_3 xe wI) ?_ | refine JO.py (Py.conv cnv5_3 xe rfl) ?_
  refine JO.py (Py.fld fld196_0 xe xoff) ?_
  refine JO.store siz3 xe xe (by first | rfl | assumption) xpick xsize xnorm ?_
  refine nC (sR ?_)
  refine oM ?_
  refine JO.py (Py.quo xe ev_const (by omega) (by omega) (w_u8 (by omega))) ?_
  refine oA ?_
  refine nC (sR ?_)
  refine oM ?_
  refine JO.py (Py.rem xe ev_const (by omega) (by omega)) ?_
  first | refine JO.py (Py.conv cnv5_3 xe wI) ?_ | refine JO.py (Py.conv cnv5_3 xe rfl) ?_
  refine JO.py (Py.fld fld196_1 xe xoff) ?_
  refine JO.store siz3 xe xe (by first | rfl | assumption) xpick xsize xnorm ?_
  refine nC (sR ?_)
  refine oM ?_
  refine JO.py (Py.quo xe ev_const (by omega) (by omega) (w_u8 (by omega))) ?_
  refine oA ?_
  refine nC (sR ?_)
  refine oM ?_
  refine JO.py (Py.rem xe ev_const (by omega) (by omega)) ?_
  first | refine JO.py (Py.conv cnv5_3 xe wI) ?_ | refine JO.py (Py.conv cnv5_3 xe rfl) ?_
  refine JO.py (Py.fld fld196_2 xe xoff) ?_
  refine JO.store siz3 xe xe (by first | rfl | assumption) xpick xsize xnorm ?_
  refine nC (sR ?_)
  refine JO.as (A := cel b2 196 _) (A' := cel b2 196 #[.int .i64 (c.lc : Int), .int .i64 (c.lp : Int), .int .i64 (c.pb : Int)]) xpick (cel_eq xcells) ?_
  first | refine JO.py (Py.loadA agg196 xe xpick (Nat.le_of_ble_eq_true rfl) rfl) ?_ | refine JO.py (Py.loadA agg196 xe xpick (by first | assumption | (simp; omega)) rfl) ?_
  refine oM ?_
  refine JO.storeW siz196 xe xe (by first | rfl | (simp; done) | assumption | fail) (by first | (simp [Value.oneCell']; done) | assumption | fail) xpick (by first | rfl | (simp; done) | assumption | fail) ?_
  refine oA ?_
  refine nC (JC.ret ?_)
  refine JX.endC2 (vs := #[.int .i64 (c.lc : Int), .int .i64 (c.lp : Int), .int .i64 (c.pb : Int)]) (Or.inl rfl) (()) Tryz.results89 xe xe agg196 xpick (Nat.le_of_ble_eq_true rfl) (rfl) rfl xpkE
end Go.Proofs.YtfpepghmbeoanaaGreatDoor
end

section
open Go Go.RowKit
namespace Go.Proofs.YtfpepghmbeoanaaGreatDoor
open Lz
/-- A reader's cells. -/
abbrev RdrC (rb : Nat) (X : Value) (a b e : Int) (ds : Int) (size : Int) (a2 b2 e2 ds2 size2 : Int) (p : Value) : Asn := cel rb 200 #[X, .int .i64 a, .int .i64 b, .int .i64 e, .int .u32 ds, .int .i64 size, .int .i64 a2, .int .i64 b2, .int .i64 e2, .int .u32 ds2, .int .i64 size2, p]
set_option maxRecDepth 100000 in
set_option maxHeartbeats 2000000 in
theorem header_con (G : Gst) (c : Cfg) (hc : c.Ok) (code d0 d1 d2 d3 s0 s1 s2 s3 s4 s5 s6 s7 : Nat) (h : code = c.lc + 9 * (c.lp + 5 * c.pb)) (hd0 : d0 < 256) (hd1 : d1 < 256) (hd2 : d2 < 256) (hd3 : d3 < 256) (hs0 : s0 < 256) (hs1 : s1 < 256) (hs2 : s2 < 256) (hs3 : s3 < 256) (hs4 : s4 < 256) (hs5 : s5 < 256) (hs6 : s6 < 256) (hs7 : s7 < 256) (ds size : Nat) (hds : ds = 1 * d0 + 256 * d1 + 65536 * d2 + 16777216 * d3) (hsz : size = 1 * s0 + 256 * s1 + 65536 * s2 + 16777216 * s3 + 4294967296 * s4 + 1099511627776 * s5 + 281474976710656 * s6 + 72057594037927936 * s7) (hds2 : ds < 2147483648) (hsz2 : size < 2147483648) (rb b : Nat) (X : Value) :
    Con Tryz.prog G 70 #[.pointer (some ⟨rb, 1, none⟩), .slice (some ⟨b, 0, none⟩) 13 13] [RdrC rb X 0 0 0 0 0 0 0 0 0 0 (.pointer none), cel b 5 #[vu8 code, vu8 d0, vu8 d1, vu8 d2, vu8 d3, vu8 s0, vu8 s1, vu8 s2, vu8 s3, vu8 s4, vu8 s5, vu8 s6, vu8 s7]] (fun _ : Unit => .nilIface) (fun _ => [RdrC rb X c.lc c.lp c.pb ds size 0 0 0 0 0 (.pointer none), cel b 5 #[vu8 code, vu8 d0, vu8 d1, vu8 d2, vu8 d3, vu8 s0, vu8 s1, vu8 s2, vu8 s3, vu8 s4, vu8 s5, vu8 s6, vu8 s7]]) := by
  refine Con.intro Tryz.func70 rfl (by kernel_rfl) Tryz.ntmps70 (Nat.le_of_ble_eq_true rfl) ?_
  intro F
  show JC _ _ _ _ _ _ [(0, _), (1, _)] _ [_, _, _]
  refine sR ?_
  refine oC ?_
  refine nC (JC.seq (sR ?_))
  refine oM ?_
  refine JO.py (Py.lenS Tryz.underlying22 xe) ?_
  first | refine oD (Py.neq xe ev_const) ?_ | refine oU (Py.neq xe ev_const) ?_ | refine JO.py (Py.neq xe ev_const) ?_
  refine nC ?_
  refine cF ?_
  refine JC.skip (JX.code (sR ?_))
  refine oC ?_
  refine nC (JC.seq (sR ?_))
  refine oM ?_
  refine oM ?_
  refine JO.py (Py.idxS Tryz.underlying22 siz5 xe ev_const (by omega) xidx xmult) ?_
  refine JO.py (Py.load scal5 xe xpick xrow) ?_
  refine JO.call (Evs.cons xe Evs.nil) (props_con G c hc code h) xpkE ?_
  rintro _
  show JO _ _ _ _ _ _ _ ((16, _) :: _) _ (_ :: _)
  refine oM ?_
  refine JO.py (Py.extrI xe xix) ?_
  refine JO.py (Py.extrI xe xix) ?_
  refine JO.py (Py.nil xe) ?_
  refine JO.py (Py.fld fld198_0 xe xoff) ?_
  refine JO.storeB (cs' := #[X, .int .i64 (c.lc : Int), .int .i64 (c.lp : Int), .int .i64 (c.pb : Int), .int .u32 0, .int .i64 0, .int .i64 0, .int .i64 0, .int .i64 0, .int .u32 0, .int .i64 0, .pointer none]) siz196 xe xe (by exact rfl) (by simp [Value.oneCell']) xpick (by exact Nat.le_of_ble_eq_true rfl) (by rfl) ?_
  refine oA ?_
  refine nC (sR ?_)
  refine oM ?_
  first | refine JO.py (Py.neqNil Tryz.underlying70 xe rfl) ?_ | refine JO.py (Py.neqHeld Tryz.underlying70 xe rfl) ?_
  refine nC ?_
  refine cF ?_
  refine JC.skip (JX.code (sR ?_))
  refine oM ?_
  refine oM ?_
  refine JO.py (Py.slc (l := 1) (h := 13) (p := 1) (q := 12) (c := 12) Tryz.underlying22 siz5 xe (Bd.some ev_const (by omega)) Bd.none (by omega) (by omega) (by omega) (by omega) (by omega) (by omega)) ?_
  refine JO.call (Evs.cons xe Evs.nil) (u32LE_con G b 1 12 12 5 (0, 0) #[vu8 code, vu8 d0, vu8 d1, vu8 d2, vu8 d3, vu8 s0, vu8 s1, vu8 s2, vu8 s3, vu8 s4, vu8 s5, vu8 s6, vu8 s7] d0 d1 d2 d3 (by decide) ⟨rfl, hd0⟩ ⟨rfl, hd1⟩ ⟨rfl, hd2⟩ ⟨rfl, hd3⟩) xpkE ?_
  rintro _
  show JO _ _ _ _ _ _ _ ((27, _) :: _) _ (_ :: _ :: _)
  rw [← hds]
  refine JO.py (Py.nil xe) ?_
  refine JO.py (Py.fld fld198_1 xe xoff) ?_
  refine JO.store siz45 xe xe (by first | rfl | assumption) xpick xsize xnorm ?_
  refine nC (JC.seq (sR ?_))
  refine oM ?_
  refine JO.py (Py.nil xe) ?_
  refine JO.py (Py.fld fld198_1 xe xoff) ?_
  refine JO.py (Py.load scal45 xe xpick xrow) ?_
  first | refine JO.py (Py.conv cnv45_3 xe wI) ?_ | refine JO.py (Py.conv cnv45_3 xe rfl) ?_
  first | refine oD (Py.lss xe ev_const) ?_ | refine oU (Py.lss xe ev_const) ?_ | refine JO.py (Py.lss xe ev_const) ?_
  refine nC ?_
  refine cF ?_
  refine JC.skip (JX.code (sR ?_))
  refine oM ?_
  refine JO.py (Py.slc (l := 5) (h := 13) (p := 5) (q := 8) (c := 8) Tryz.underlying22 siz5 xe (Bd.some ev_const (by omega)) Bd.none (by omega) (by omega) (by omega) (by omega) (by omega) (by omega)) ?_
  refine JO.call (Evs.cons xe Evs.nil) (u64LE_con G b 5 8 8 5 (0, 0) #[vu8 code, vu8 d0, vu8 d1, vu8 d2, vu8 d3, vu8 s0, vu8 s1, vu8 s2, vu8 s3, vu8 s4, vu8 s5, vu8 s6, vu8 s7] s0 s1 s2 s3 s4 s5 s6 s7 (by decide) ⟨rfl, hs0⟩ ⟨rfl, hs1⟩ ⟨rfl, hs2⟩ ⟨rfl, hs3⟩ ⟨rfl, hs4⟩ ⟨rfl, hs5⟩ ⟨rfl, hs6⟩ ⟨rfl, hs7⟩) xpkE ?_
  rintro _
  show JO _ _ _ _ _ _ _ ((39, _) :: _) _ (_ :: _ :: _)
  rw [← hsz]
  refine oA ?_
  refine nC (JC.seq (sR ?_))
  refine oM ?_
  first | refine oD (Py.eql xe ev_const) ?_ | refine oU (Py.eql xe ev_const) ?_ | refine JO.py (Py.eql xe ev_const) ?_
  refine nC ?_
  refine cF ?_
  refine sR ?_
  refine oM ?_
  refine oM ?_
  first | refine JO.py (Py.conv cnv43_2 xe wI) ?_ | refine JO.py (Py.conv cnv43_2 xe rfl) ?_
  refine JO.py (Py.nil xe) ?_
  refine JO.py (Py.fld fld198_2 xe xoff) ?_
  refine JO.store siz2 xe xe (by first | rfl | assumption) xpick xsize xnorm ?_
  refine nC (sR ?_)
  refine oM ?_
  refine JO.py (Py.nil xe) ?_
  refine JO.py (Py.fld fld198_2 xe xoff) ?_
  refine JO.py (Py.load scal2 xe xpick xrow) ?_
  first | refine oD (Py.lss xe ev_const) ?_ | refine oU (Py.lss xe ev_const) ?_ | refine JO.py (Py.lss xe ev_const) ?_
  refine nC ?_
  refine cF ?_
  refine JC.skip (JX.code (sR ?_))
  refine oC ?_
  refine nC (JC.ret ?_)
  refine JX.end1 (Or.inl rfl) (()) Tryz.results70 ((xe).trans (by first | exact xval | (dsimp only; exact xval))) xpkE
end Go.Proofs.YtfpepghmbeoanaaGreatDoor
end

section
open Go Go.RowKit
namespace Go.Proofs.YtfpepghmbeoanaaGreatDoor
open Lz
set_option maxRecDepth 100000 in
theorem readAtLeast_con (G : Gst) (t : TypeId) (u : Value) (f : FuncId) (rcv : Value) (hm : Mth Tryz.prog t u "Read" f rcv) (hn : NilA Tryz.prog t u "Read") (b o m c : Nat) (hm1 : 1 ≤ m ∧ m ≤ c ∧ c ≤ 1000000) (A A2 B B2 : Asn)
    (hc : Con Tryz.prog G f #[rcv, .slice (some ⟨b, o, none⟩) m c] [A, A2] (fun _ : Unit => .tuple #[.int .i64 (m : Int), .nilIface]) (fun _ => [B, B2])) :
    Con Tryz.prog G 63 #[.iface t u, .slice (some ⟨b, o, none⟩) m c, .int .i64 (m : Int)] [A, A2] (fun _ : Unit => .tuple #[.int .i64 (m : Int), .nilIface]) (fun _ => [B, B2]) := by
  refine Con.intro Tryz.func63 rfl (by kernel_rfl) Tryz.ntmps63 (Nat.le_of_ble_eq_true rfl) ?_
  intro F
  show JC _ _ _ _ _ _ [(0, _), (1, _), (2, _)] _ [_, _, _]
  refine sR ?_
  refine oC ?_
  refine oC ?_
  refine nC (JC.seq (sR ?_))
  refine oM ?_
  refine JO.py (Py.lenS Tryz.underlying22 xe) ?_
  refine oM ?_
  first | refine oD (Py.lss xe xe) ?_ | refine oU (Py.lss xe xe) ?_ | refine JO.py (Py.lss xe xe) ?_
  refine nC ?_
  refine cF ?_
  refine JC.skip (JX.code (JC.seq (JC.block ?_)))
  refine JC.unroll 1 ?_
  refine JC.seq (sR ?_)
  refine oM ?_
  refine oM ?_
  first | refine oD (Py.lss xe xe) ?_ | refine oU (Py.lss xe xe) ?_ | refine JO.py (Py.lss xe xe) ?_
  refine oM ?_
  first | (refine gT ?_; (refine oM ?_)) | refine kF ?_
  first | (refine gT ?_; (first | refine JO.py (Py.eqlNil Tryz.underlying70 xe rfl) ?_ | refine JO.py (Py.eqlHeld Tryz.underlying70 xe rfl) ?_)) | refine kF ?_
  first | refine JO.py (Py.pickT xe xe) ?_ | refine JO.py (Py.pickF xe ev_const) ?_
  refine nC ?_
  refine cT ?_
  refine JC.skip (JX.code (JC.block (sR ?_)))
  refine oC ?_
  refine nC (JC.seq ?_)
  refine JC.regionM [(0, true), (1, true), (2, true), (3, true), (4, true), (5, true), (6, true), (7, false), (8, true), (9, true), (10, true), (11, true), (12, true)] mixed (by kernel_rfl) ?_
  refine JM.py ao ⟨fun _ => Py.move xe⟩ ?_
  refine JM.py ao ⟨fun _ => Py.move xe⟩ ?_
  refine JM.py ao ⟨fun _ => Py.move xe⟩ ?_
  refine JM.py ao ⟨fun _ => Py.slc (l := 0) (h := m) (p := o) (q := m) (c := c) Tryz.underlying22 siz5 xe (Bd.some xe (by omega)) Bd.none (by omega) (by omega) (by omega) (by omega) (by omega) (by omega)⟩ ?_
  refine JM.py ao ⟨fun _ => Py.mkM xe⟩ ?_
  refine JM.py ao ⟨fun _ => Py.nilM xe hn⟩ ?_
  refine JM.py ao ⟨fun _ => Py.move xe⟩ ?_
  refine JM.eff ao ?_
  refine JO.invoke xe (Evs.cons xe Evs.nil) (hm) hc xpkE ?_
  rintro _
  show JO _ _ _ _ _ _ _ ((29, _) :: _) _ (_ :: _ :: _ :: _)
  rw [show (m : Int) = ((m : Nat) : Int) from rfl]
  refine JO.nil ?_
  refine JX.mix Kept.nil ?_
  refine JM.py ao ⟨fun _ => Py.move xe⟩ ?_
  refine JM.py ao ⟨fun _ => Py.extrI xe xix⟩ ?_
  refine JM.py ao ⟨fun _ => Py.extrI xe xix⟩ ?_
  refine JM.py ao ⟨fun _ => Py.assign xe⟩ ?_
  refine JM.py ao ⟨fun _ => Py.assign xe⟩ ?_
  refine JM.nil (JX.code (JC.region ?_))
  refine oM ?_
  refine oM ?_
  refine JO.py (Py.add xe xe wI) ?_
  refine oA ?_
  refine JO.nil (JX.blockN (JX.again (JC.seq (sR ?_))))
  refine oM ?_
  refine oM ?_
  first | refine oD (Py.lss xe xe) ?_ | refine oU (Py.lss xe xe) ?_ | refine JO.py (Py.lss xe xe) ?_
  refine oM ?_
  first | (refine gT ?_; (refine oM ?_)) | refine kF ?_
  first | (refine gT ?_; (first | refine JO.py (Py.eqlNil Tryz.underlying70 xe rfl) ?_ | refine JO.py (Py.eqlHeld Tryz.underlying70 xe rfl) ?_)) | refine kF ?_
  first | refine JO.py (Py.pickT xe xe) ?_ | refine JO.py (Py.pickF xe ev_const) ?_
  refine nC ?_
  refine cF ?_
  refine JC.exit (JX.exit (JX.exit (JX.blockE (JX.code (JC.seq (sR ?_))))))
  refine oM ?_
  refine oM ?_
  first | refine oD (Py.geq xe xe) ?_ | refine oU (Py.geq xe xe) ?_ | refine JO.py (Py.geq xe xe) ?_
  refine nC ?_
  refine cT ?_
  refine JC.region ?_
  refine oC ?_
  refine nC (JC.ret ?_)
  refine JX.end2 (Or.inl rfl) (()) Tryz.results63 (tup2 ((xe).trans (by first | exact xval | (dsimp only; exact xval))) ((xe).trans (by first | exact xval | (dsimp only; exact xval)))) xpkE
theorem readFull_con (G : Gst) (t : TypeId) (u : Value) (f : FuncId) (rcv : Value) (hm : Mth Tryz.prog t u "Read" f rcv) (hn : NilA Tryz.prog t u "Read") (b o m c : Nat) (hm1 : 1 ≤ m ∧ m ≤ c ∧ c ≤ 1000000) (A A2 B B2 : Asn)
    (hc : Con Tryz.prog G f #[rcv, .slice (some ⟨b, o, none⟩) m c] [A, A2] (fun _ : Unit => .tuple #[.int .i64 (m : Int), .nilIface]) (fun _ => [B, B2])) :
    Con Tryz.prog G 56 #[.iface t u, .slice (some ⟨b, o, none⟩) m c] [A, A2] (fun _ : Unit => .tuple #[.int .i64 (m : Int), .nilIface]) (fun _ => [B, B2]) := by
  refine Con.intro Tryz.func56 rfl (by kernel_rfl) Tryz.ntmps56 (Nat.le_of_ble_eq_true rfl) ?_
  intro F
  show JC _ _ _ _ _ _ [(0, _), (1, _)] _ [_, _, _]
  refine sR ?_
  refine oC ?_
  refine oC ?_
  refine nC (sR ?_)
  refine oM ?_
  refine oM ?_
  refine oM ?_
  refine JO.py (Py.lenS Tryz.underlying22 xe) ?_
  refine JO.call (Evs.cons xe (Evs.cons xe (Evs.cons xe Evs.nil))) (readAtLeast_con G t u f rcv hm hn b o m c hm1 A A2 B B2 hc) xpkE ?_
  rintro _
  show JO _ _ _ _ _ _ _ ((10, _) :: _) _ (_ :: _ :: _ :: _)
  refine JO.py (Py.extrI xe xix) ?_
  refine JO.py (Py.extrI xe xix) ?_
  refine oA ?_
  refine oA ?_
  refine nC (JC.ret ?_)
  refine JX.end2 (Or.inl rfl) (()) Tryz.results56 (tup2 ((xe).trans (by first | exact xval | (dsimp only; exact xval))) ((xe).trans (by first | exact xval | (dsimp only; exact xval)))) xpkE
theorem byteRd_con (G : Gst) (t : TypeId) (u : Value) (h : (Tryz.prog.info? t).map (fun i => (lacking #[("ReadByte", 290)] i.methods).isEmpty) = some true) :
    Con Tryz.prog G 74 #[.iface t u] [] (fun _ : Unit => .iface t u) (fun _ => []) := by
  refine Con.intro Tryz.func74 rfl (by kernel_rfl) Tryz.ntmps74 (Nat.le_of_ble_eq_true rfl) ?_
  intro F
  show JC _ _ _ _ _ _ [(0, _)] _ [_]
  refine sR ?_
  refine oC ?_
  refine nC (sR ?_)
  refine oM ?_
  refine JO.py (Py.asI Tryz.underlying169 h xe) ?_
  refine oM ?_
  refine JO.py (Py.extrI xe xix) ?_
  refine JO.py (Py.extrI xe xix) ?_
  refine oA ?_
  refine oA ?_
  refine nC (JC.seq (sR ?_))
  refine oM ?_
  refine JO.py (Py.not xe (by first | with_reducible exact not_t | with_reducible exact not_f | exact rfl)) ?_
  refine nC ?_
  refine cF ?_
  refine JC.skip (JX.code (sR ?_))
  refine oM ?_
  refine oA ?_
  refine nC (JC.ret ?_)
  refine JX.end1 (Or.inl rfl) (()) Tryz.results74 ((xe).trans (by first | exact xval | (dsimp only; exact xval))) xpkE
end Go.Proofs.YtfpepghmbeoanaaGreatDoor
end

section
open Go Go.RowKit
namespace Go.Proofs.YtfpepghmbeoanaaGreatDoor
section
variable {P : Program} {G : Gst} {n : Nat} {base : Nat → Value} {L : List (Nat × Value)} {As r : List Asn}
theorem Py.eqlNH {xt yt t : TypeId} {x y : Operand} {u : Value} {ms : Array (String × TypeId)} (ht : P.underlying xt = some (.interface ms)) (hx : ev n base L x = .nilIface) (hy : ev n base L y = .iface t u) : Py P G n base L As (.binOp .eql xt x y yt) (.bool false) := by
  refine ⟨fun w _ o ho => ?_⟩
  have hg : (eqGuard .eql xt x y .nilIface (.iface t u)).run P w = .ok () w := by simp [eqGuard]
  simp only [execOp, ho, hx, hy, Sem.run_bind, hg, Result.andThen_ok, (run_eqx ht (.inr (.inr ⟨t, u, rfl, rfl, rfl⟩)) w).1, Sem.run_pure]
theorem Py.neqNH {xt yt t : TypeId} {x y : Operand} {u : Value} {ms : Array (String × TypeId)} (ht : P.underlying xt = some (.interface ms)) (hx : ev n base L x = .nilIface) (hy : ev n base L y = .iface t u) : Py P G n base L As (.binOp .neq xt x y yt) (.bool true) := by
  refine ⟨fun w _ o ho => ?_⟩
  have hg : (eqGuard .neq xt x y .nilIface (.iface t u)).run P w = .ok () w := by simp [eqGuard]
  simp only [execOp, ho, hx, hy, Sem.run_bind, hg, Result.andThen_ok, (run_eqx ht (.inr (.inr ⟨t, u, rfl, rfl, rfl⟩)) w).2, Sem.run_pure]
  rfl
end
/-- Two that stand together. -/
def Two (A B : Asn) : Asn := Ex fun _ : Unit => [A, B]
theorem two_eq (A B : Asn) : Two A B = Ex fun _ : Unit => [A, B] := rfl
theorem mth88R (p : Value) : Mth Tryz.prog 88 (.agg #[p]) "Read" 139 p := fun w => by kernel_rfl
theorem mth88B (p : Value) : Mth Tryz.prog 88 (.agg #[p]) "ReadByte" 140 p := fun w => by kernel_rfl
theorem mth106R (p : Value) : Mth Tryz.prog 106 p "Read" 143 p := fun w => by kernel_rfl
theorem mth171R (p : Value) : Mth Tryz.prog 171 p "Read" 223 p := fun w => by kernel_rfl
theorem mth171B (p : Value) : Mth Tryz.prog 171 p "ReadByte" 224 p := fun w => by kernel_rfl
theorem mth210R (p : Value) : Mth Tryz.prog 210 p "Read" 238 p := fun w => by kernel_rfl
theorem mth109R (p : Value) : Mth Tryz.prog 109 p "Read" 148 p := fun w => by kernel_rfl
theorem mth115R (p : Value) : Mth Tryz.prog 115 p "Read" 190 p := fun w => by kernel_rfl
theorem nil171 (a : Addr) : NilA Tryz.prog 171 (.pointer (some a)) "Read" := fun w => by kernel_rfl
theorem br171 : (Tryz.prog.info? 171).map (fun i => (lacking #[("ReadByte", 290)] i.methods).isEmpty) = some true := by kernel_rfl
theorem br88 : (Tryz.prog.info? 88).map (fun i => (lacking #[("ReadByte", 290)] i.methods).isEmpty) = some true := by kernel_rfl
end Go.Proofs.YtfpepghmbeoanaaGreatDoor
end

section
open Go Go.RowKit
namespace Go.Proofs.YtfpepghmbeoanaaGreatDoor
open Lz
/-- The header's bytes. -/
def hdrL (c : Cfg) (z : Nat) : List Nat := [c.lc + 9 * (c.lp + 5 * c.pb), 0, 0, 1, 0, z % 256, z / 256, 0, 0, 0, 0, 0, 0]
theorem hdrL_u8s (c : Cfg) (z : Nat) : (u8s (hdrL c z)).toArray = #[vu8 (c.lc + 9 * (c.lp + 5 * c.pb)), vu8 0, vu8 0, vu8 1, vu8 0, vu8 (z % 256), vu8 (z / 256), vu8 0, vu8 0, vu8 0, vu8 0, vu8 0, vu8 0] := rfl
theorem newDict4096_con (G : Gst) (all : List Nat) : Con Tryz.prog G 66 #[.int .i64 4096] [] (fun x : Nat × Nat => .tuple #[.pointer (some ⟨x.1, 0, none⟩), .nilIface]) (fun x => [DictC x.1 x.2 4097 0 0 0, DictD x.2 all 0 4097]) := newDict_con G 4096 (by decide) all
set_option maxRecDepth 100000 in
set_option maxHeartbeats 4000000 in
theorem newReader_con (G : Gst) (S : ByteSrc G) (H E : Asn) (f : FuncId) (rcv : Value) (hm : Mth Tryz.prog S.t S.u "Read" f rcv) (hn : NilA Tryz.prog S.t S.u "Read") (hbr : (Tryz.prog.info? S.t).map (fun i => (lacking #[("ReadByte", 290)] i.methods).isEmpty) = some true)
    (c : Cfg) (hc : c.Ok) (bs : List Nat) (l : List Sym) (hv : ValidAll bs LzS.start l) (hrun : (LzS.start.run l).i = bs.length) (hpos : 0 < bs.length) (z : Nat) (hz : bs.length = z) (hlen : z ≤ 3000) (hby : ∀ x ∈ bs, x < 256)
    (x1 x2 x3 x4 : Nat) (rb : List Nat) (h1 : x1 < 256) (h2 : x2 < 256) (h3 : x3 < 256) (h4 : x4 < 256) (hnum : num [x1, x2, x3, x4] < 4294967295) (hd : DecOK M0 4294967295 (num [x1, x2, x3, x4]) rb (symsEv c bs LzS.start l))
    (hrd : ∀ b, Con Tryz.prog G f #[rcv, .slice (some ⟨b, 0, none⟩) 13 13] [H, cel b 5 (Array.replicate 13 (.int .u8 0))] (fun _ : Unit => .tuple #[.int .i64 (13 : Nat), .nilIface]) (fun _ => [Two (S.A (0 :: x1 :: x2 :: x3 :: x4 :: rb)) E, cel b 5 (u8s (hdrL c z)).toArray])) :
    Con Tryz.prog G 60 #[.agg #[.int .i64 0], .iface S.t S.u] [H] (fun x : {x : Nat × DecP G // x.2.Ok ∧ x.2.pre = 0 ∧ x.2.bs = bs ∧ x.2.all = bs} => .tuple #[.pointer (some ⟨x.1.1, 0, none⟩), .nilIface])
      (fun x => [RdrC x.1.1 (.iface S.t S.u) c.lc c.lp c.pb 4096 z c.lc c.lp c.pb 65536 z (.pointer (some ⟨x.1.2.d, 0, none⟩)), DecSt x.1.2 true 0, E]) := by
  have hcl := hc.l
  have hcp := hc.p
  refine Con.intro Tryz.func60 rfl (by kernel_rfl) Tryz.ntmps60 (Nat.le_of_ble_eq_true rfl) ?_
  intro F
  show JC _ _ _ _ _ _ [(0, _), (1, _)] _ [_, _]
  refine sR ?_
  refine JO.boxA xe ?_; intro b2
  refine oC ?_
  refine oC ?_
  refine nC (JC.seq (sR ?_))
  refine JO.call (Evs.cons xe Evs.nil) (verify_con G b2) xpkE ?_
  rintro _
  show JO _ _ _ _ _ _ _ ((13, _) :: _) _ (_ :: _ :: _)
  refine oA ?_
  refine nC (sR ?_)
  refine oM ?_
  first | refine JO.py (Py.neqNil Tryz.underlying70 xe rfl) ?_ | refine JO.py (Py.neqHeld Tryz.underlying70 xe rfl) ?_
  refine nC ?_
  refine cF ?_
  refine JC.skip (JX.code (sR ?_))
  refine JO.mkslice (m := 13) (c := 13) Tryz.underlying22 elm5 ev_const ev_const rfl rfl (by omega) (by omega) (by omega) ?_; intro b17
  refine oA ?_
  refine nC (JC.seq (sR ?_))
  refine oM ?_
  refine oM ?_
  refine JO.call (Evs.cons xe (Evs.cons xe Evs.nil)) (readFull_con G S.t S.u f rcv hm hn b17 0 13 13 (by decide) H (cel b17 5 (Array.replicate 13 (.int .u8 0))) (Two (S.A (0 :: x1 :: x2 :: x3 :: x4 :: rb)) E) (cel b17 5 (u8s (hdrL c z)).toArray) (hrd b17)) xpkE ?_
  rintro _
  show JO _ _ _ _ _ _ _ ((21, _) :: _) _ (_ :: _ :: _ :: _)
  refine JO.as (A := Two (S.A (0 :: x1 :: x2 :: x3 :: x4 :: rb)) E) (A' := Ex fun _ : Unit => [S.A (0 :: x1 :: x2 :: x3 :: x4 :: rb), E]) xpick (rfl) ?_
  refine JO.open xpick ?_
  rintro _
  show JO _ _ _ _ _ _ _ _ _ (_ :: _ :: _ :: _ :: _)
  rw [hdrL_u8s]
  refine oM ?_
  refine JO.py (Py.extrI xe xix) ?_
  refine JO.py (Py.extrI xe xix) ?_
  refine oA ?_
  refine oA ?_
  refine nC (sR ?_)
  refine oM ?_
  first | refine JO.py (Py.neqNil Tryz.underlying70 xe rfl) ?_ | refine JO.py (Py.neqHeld Tryz.underlying70 xe rfl) ?_
  refine nC ?_
  refine cF ?_
  refine JC.skip (JX.code (sR ?_))
  refine oM ?_
  refine JO.py (Py.build bld200 (Pts.cons xe Pts.nil) xfl) ?_
  refine JO.boxA xe ?_; intro b33
  refine oA ?_
  refine nC (JC.seq (sR ?_))
  refine oM ?_
  refine JO.py (Py.nil xe) ?_
  refine JO.py (Py.fld fld200_1 xe xoff) ?_
  refine oM ?_
  refine JO.call (Evs.cons xe (Evs.cons xe Evs.nil)) (header_con G c hc (c.lc + 9 * (c.lp + 5 * c.pb)) 0 0 1 0 (z % 256) (z / 256) 0 0 0 0 0 0 rfl (by omega) (by omega) (by omega) (by omega) (by omega) (by omega) (by omega) (by omega) (by omega) (by omega) (by omega) (by omega) 65536 z (by decide) (by omega) (by decide) (by omega) b33 b17 (.iface S.t S.u)) xpkE ?_
  rintro _
  show JO _ _ _ _ _ _ _ ((38, _) :: _) _ (_ :: _ :: _ :: _)
  refine oA ?_
  refine nC (sR ?_)
  refine oM ?_
  first | refine JO.py (Py.neqNil Tryz.underlying70 xe rfl) ?_ | refine JO.py (Py.neqHeld Tryz.underlying70 xe rfl) ?_
  refine nC ?_
  refine cF ?_
  refine JC.skip (JX.code (sR ?_))
  refine oM ?_
  refine oM ?_
  refine JO.py (Py.nil xe) ?_
  refine JO.py (Py.fld fld200_1 xe xoff) ?_
  refine JO.py (Py.loadA (vs := #[.int .i64 (c.lc : Int), .int .i64 (c.lp : Int), .int .i64 (c.pb : Int), .int .u32 65536, .int .i64 (z : Int)]) agg198 xe xpick (by first | exact Nat.le_of_ble_eq_true rfl | assumption | (simp; omega) | fail) (by rfl)) ?_
  refine JO.py (Py.nil xe) ?_
  refine JO.py (Py.fld fld200_2 xe xoff) ?_
  refine JO.storeB (cs' := #[.iface S.t S.u, .int .i64 (c.lc : Int), .int .i64 (c.lp : Int), .int .i64 (c.pb : Int), .int .u32 65536, .int .i64 (z : Int), .int .i64 (c.lc : Int), .int .i64 (c.lp : Int), .int .i64 (c.pb : Int), .int .u32 65536, .int .i64 (z : Int), .pointer none]) siz198 xe xe (by exact rfl) (by simp [Value.oneCell']) xpick (by exact Nat.le_of_ble_eq_true rfl) (by rfl) ?_
  refine nC (sR ?_)
  refine oM ?_
  refine JO.py (Py.nil xe) ?_
  refine JO.py (Py.fld fld200_1 xe xoff) ?_
  refine JO.py (Py.fld fld198_1 xe xoff) ?_
  refine JO.py (Py.load scal45 xe xpick xrow) ?_
  first | refine JO.py (Py.conv cnv45_2 xe wI) ?_ | refine JO.py (Py.conv cnv45_2 xe rfl) ?_
  refine oA ?_
  refine nC (JC.seq (sR ?_))
  refine JO.py (Py.fld fld166_0 xe xoff) ?_
  refine JO.py (Py.load scal3 xe xpick xrow) ?_
  refine oM ?_
  first | refine oD (Py.lss xe xe) ?_ | refine oU (Py.lss xe xe) ?_ | refine JO.py (Py.lss xe xe) ?_
  refine nC ?_
  refine cF ?_
  refine JC.skip (JX.code (JC.seq (sR ?_)))
  refine oM ?_
  first | refine oD (Py.lss xe ev_const) ?_ | refine oU (Py.lss xe ev_const) ?_ | refine JO.py (Py.lss xe ev_const) ?_
  refine nC ?_
  refine cF ?_
  refine JC.skip (JX.code (sR ?_))
  refine oM ?_
  refine JO.py (Py.nil xe) ?_
  refine JO.py (Py.fld fld200_1 xe xoff) ?_
  refine JO.py (Py.fld fld198_2 xe xoff) ?_
  refine JO.py (Py.load scal2 xe xpick xrow) ?_
  refine oA ?_
  refine nC (JC.seq (sR ?_))
  refine oM ?_
  first | refine oD (Py.geq xe ev_const) ?_ | refine oU (Py.geq xe ev_const) ?_ | refine JO.py (Py.geq xe ev_const) ?_
  refine oM ?_
  first | (refine gT ?_; (refine oM ?_)) | refine kF ?_
  first | (refine gT ?_; (refine oM ?_)) | refine kF ?_
  first | (refine gT ?_; (first | refine oD (Py.lss xe xe) ?_ | refine oU (Py.lss xe xe) ?_ | refine JO.py (Py.lss xe xe) ?_)) | refine kF ?_
  first | refine JO.py (Py.pickT xe xe) ?_ | refine JO.py (Py.pickF xe ev_const) ?_
  refine nC ?_
  refine cT ?_
  refine JC.region ?_
  refine oM ?_
  refine oA ?_
  refine nC (JC.seq (sR ?_))
  refine oM ?_
  first | refine oD (Py.gtr xe ev_const) ?_ | refine oU (Py.gtr xe ev_const) ?_ | refine JO.py (Py.gtr xe ev_const) ?_
  refine nC ?_
  refine cF ?_
  refine JC.skip (JX.code (JC.seq (sR ?_)))
  refine oM ?_
  first | refine oD (Py.lss xe ev_const) ?_ | refine oU (Py.lss xe ev_const) ?_ | refine JO.py (Py.lss xe ev_const) ?_
  refine nC ?_
  refine cT ?_
  refine JC.region ?_
  refine oC ?_
  refine nC (sR ?_)
  refine oM ?_
  refine oM ?_
  first | refine JO.py (Py.conv cnv2_45 xe (w_u32 (by omega))) ?_ | refine JO.py (Py.conv cnv2_45 xe (m_u32 _)) ?_
  refine JO.py (Py.nil xe) ?_
  refine JO.py (Py.fld fld200_1 xe xoff) ?_
  refine JO.py (Py.fld fld198_1 xe xoff) ?_
  refine JO.store siz45 xe xe (by first | rfl | assumption) xpick xsize xnorm ?_
  refine nC (sR ?_)
  refine oM ?_
  refine JO.py (Py.nil xe) ?_
  refine JO.py (Py.fld fld200_1 xe xoff) ?_
  refine JO.py (Py.fld fld198_0 xe xoff) ?_
  refine JO.py (Py.loadA (vs := #[.int .i64 (c.lc : Int), .int .i64 (c.lp : Int), .int .i64 (c.pb : Int)]) agg196 xe xpick (by first | exact Nat.le_of_ble_eq_true rfl | assumption | (simp; omega) | fail) (by rfl)) ?_
  refine JO.call (Evs.cons xe Evs.nil) (newState_con G c hc) xpkE ?_
  rintro ⟨sb, T, hT⟩
  show JO _ _ _ _ _ _ _ ((96, _) :: _) _ (_ :: _ :: _ :: _)
  dsimp only
  refine oA ?_
  refine nC (sR ?_)
  refine oM ?_
  refine JO.call (Evs.cons xe Evs.nil) (newDict4096_con G bs) xpkE ?_
  rintro ⟨dd, db⟩
  show JO _ _ _ _ _ _ _ ((99, _) :: _) _ (_ :: _ :: _ :: _)
  dsimp only
  refine oM ?_
  refine JO.py (Py.extrI xe xix) ?_
  refine JO.py (Py.extrI xe xix) ?_
  refine oA ?_
  refine oA ?_
  refine nC (JC.seq (sR ?_))
  refine oM ?_
  first | refine JO.py (Py.neqNil Tryz.underlying70 xe rfl) ?_ | refine JO.py (Py.neqHeld Tryz.underlying70 xe rfl) ?_
  refine nC ?_
  refine cF ?_
  refine JC.skip (JX.code (JC.seq ?_))
  refine JC.regionM [(0, true), (1, true), (3, true), (4, true), (5, true), (6, true), (7, true), (8, true), (9, true), (2, false), (10, false), (11, true), (12, true), (13, true), (14, true), (15, true), (16, false), (17, true)] mixed (by kernel_rfl) ?_
  refine JM.py ao ⟨fun _ => Py.move xe⟩ ?_
  refine JM.py ao ⟨fun _ => Py.move xe⟩ ?_
  refine JM.py ao ⟨fun _ => Py.move xe⟩ ?_
  refine JM.py ao ⟨fun _ => Py.move xe⟩ ?_
  refine JM.py ao ⟨fun _ => Py.move xe⟩ ?_
  refine JM.py ao ⟨fun _ => Py.nil xe⟩ ?_
  refine JM.py ao ⟨fun _ => Py.fld fld200_1 xe xoff⟩ ?_
  refine JM.py ao ⟨fun _ => Py.fld fld198_2 xe xoff⟩ ?_
  refine JM.ld ao scal2 xe xpick xrow ?_
  refine JM.eff ao ?_
  refine JO.call (Evs.cons xe Evs.nil) (byteRd_con G S.t S.u hbr) xpkE ?_
  rintro _
  show JO _ _ _ _ _ _ _ ((108, _) :: _) _ (_ :: _)
  refine JO.nil ?_
  refine JX.mix (Kept.keep (fun _ hw => hw.cell xpick xrow) Kept.nil) ?_
  refine JM.eff ao ?_
  refine JO.call (Evs.cons xe (Evs.cons xe (Evs.cons xe (Evs.cons xe Evs.nil)))) (newDec_con G S x1 x2 x3 x4 rb h1 h2 h3 h4 hnum sb dd db 4097 0 0 z M0 (symsEv c bs LzS.start l) hd) xpkE ?_
  rintro ⟨d, g⟩
  show JO _ _ _ _ _ _ _ ((116, _) :: _) _ (_ :: _ :: _ :: _ :: _)
  dsimp only
  refine JO.nil ?_
  refine JX.mix (Kept.drop (Forced.step (by kernel_rfl)) Kept.nil) ?_
  refine JM.py ao ⟨fun _ => Py.move xe⟩ ?_
  refine JM.py ao ⟨fun _ => Py.extrI xe xix⟩ ?_
  refine JM.py ao ⟨fun _ => Py.extrI xe xix⟩ ?_
  refine JM.py ao ⟨fun _ => Py.nil xe⟩ ?_
  refine JM.py ao ⟨fun _ => Py.fld fld200_3 xe xoff⟩ ?_
  refine JM.eff ao ?_
  refine JO.store siz189 xe xe (by first | rfl | assumption) xpick xsize xnorm ?_
  refine JO.nil ?_
  refine JX.mix Kept.nil ?_
  refine JM.py ao ⟨fun _ => Py.assign xe⟩ ?_
  refine JM.nil (JX.code (JC.seq (sR ?_)))
  refine oM ?_
  first | refine JO.py (Py.neqNil Tryz.underlying70 xe rfl) ?_ | refine JO.py (Py.neqHeld Tryz.underlying70 xe rfl) ?_
  refine nC ?_
  refine cF ?_
  refine JC.skip (JX.code (sR ?_))
  refine oM ?_
  refine oA ?_
  refine oC ?_
  refine nC (JC.ret ?_)
  refine JX.shut (f := (fun _ : Unit => [DecC d dd sb g 0 z false, DictC dd db 4097 0 0 0, DictD db bs 0 4097, cel sb 270 (stC T M0 c LzS.start.regs), ChD T M0, DecS g S M0 (symsEv c bs LzS.start l)])) (()) xpicks ?_
  have hX : (⟨S, T, c, d, dd, db, sb, g, 4097, 0, bs, bs, l⟩ : DecP G).Ok := ⟨hc, hT, ⟨fun i hi => by simp, hby⟩, hv, hrun, hpos, by dsimp only; omega⟩
  refine JX.as (A := Ex fun _ : Unit => [DecC d dd sb g 0 z false, DictC dd db 4097 0 0 0, DictD db bs 0 4097, cel sb 270 (stC T M0 c LzS.start.regs), ChD T M0, DecS g S M0 (symsEv c bs LzS.start l)]) (A' := DecSt (⟨S, T, c, d, dd, db, sb, g, 4097, 0, bs, bs, l⟩ : DecP G) true 0) xpick (by subst hz; rfl) ?_
  refine JX.end2 (Or.inl rfl) (⟨(b33, ⟨S, T, c, d, dd, db, sb, g, 4097, 0, bs, bs, l⟩), hX, rfl, rfl, rfl⟩) Tryz.results60 (tup2 ((xe).trans (by first | exact xval | (dsimp only; exact xval))) ((xe).trans (by first | exact xval | (dsimp only; exact xval)))) xpkE
theorem rdr_con (G : Gst) (X : DecP G) (hX : X.Ok) (rb : Nat) (x : Value) (a b e ds size a2 b2 e2 ds2 size2 : Int) (fresh : Bool) (re pb po pl pc : Nat) (ps : Array Value) (hf : fresh = true → re = X.pre) (hre : X.pre ≤ re ∧ re ≤ X.pre + X.bs.length) (hp : po + pl ≤ ps.size) (hpl : 1 ≤ pl ∧ pl ≤ 100000) (hpc : pl ≤ pc) (ea : Addr) (eT : TypeId) (ef : Nat × Nat) :
    Con Tryz.prog G 148 #[.pointer (some ⟨rb, 0, none⟩), .slice (some ⟨pb, po, none⟩) pl pc] [RdrC rb x a b e ds size a2 b2 e2 ds2 size2 (.pointer (some ⟨X.d, 0, none⟩)), DecSt X fresh re, cel pb 5 ps, EofA ea eT ef] (fun _ : Unit => .tuple #[.int .i64 (min pl (X.pre + X.bs.length - re) : Nat), if X.pre + X.bs.length - re < pl then eofV ea else .nilIface])
      (fun _ => [RdrC rb x a b e ds size a2 b2 e2 ds2 size2 (.pointer (some ⟨X.d, 0, none⟩)), DecSt X false (re + min pl (X.pre + X.bs.length - re)), cel pb 5 (splice ps po (piece X.all re (min pl (X.pre + X.bs.length - re)))), EofA ea eT ef]) := by
  obtain ⟨E, hE⟩ : ∃ E, (if X.pre + X.bs.length - re < pl then eofV ea else .nilIface : Value) = E := ⟨_, rfl⟩
  have h := decRead_con X hX fresh re pb po pl pc ps hf hre hp hpl hpc ea eT ef
  rw [hE] at h ⊢
  refine Con.intro Tryz.func148 rfl (by kernel_rfl) Tryz.ntmps148 (Nat.le_of_ble_eq_true rfl) ?_
  intro F
  show JC _ _ _ _ _ _ [(0, _), (1, _)] _ [_, _, _, _, _]
  refine sR ?_
  refine oC ?_
  refine oC ?_
  refine nC (sR ?_)
  refine oM ?_
  refine JO.py (Py.nil xe) ?_
  refine JO.py (Py.fld fld200_3 xe xoff) ?_
  refine JO.py (Py.load scal189 xe xpick xrow) ?_
  refine oM ?_
  refine JO.call (Evs.cons xe (Evs.cons xe Evs.nil)) h xpkE ?_
  rintro _
  show JO _ _ _ _ _ _ _ ((11, _) :: _) _ (_ :: _ :: _ :: _ :: _)
  refine JO.py (Py.extrI xe xix) ?_
  refine JO.py (Py.extrI xe xix) ?_
  refine oA ?_
  refine oA ?_
  refine nC (JC.ret ?_)
  refine JX.end2 (Or.inl rfl) (()) Tryz.results148 (tup2 ((xe).trans (by first | exact xval | (dsimp only; exact xval))) ((xe).trans (by first | exact xval | (dsimp only; exact xval)))) xpkE
end Go.Proofs.YtfpepghmbeoanaaGreatDoor
end

section
open Go Go.RowKit
namespace Go.Proofs.YtfpepghmbeoanaaGreatDoor
open Go.Extern.Stop Go.Stop Go.Extern
theorem tz_typeOf (v : Value) (w : World) : (Extern.ReflectliteType.typeOf #[.iface 215 v]).run Tryz.prog w = .ok (.iface 156 (.agg #[.pointer (some ⟨33, 215, none⟩)])) w := by kernel_rfl
theorem tz_cmp (w : World) : ((Extern.ReflectliteType.method fun t => do Extern.Rtype.noPackHeld "Comparable" t; (fun a => Value.bool a.comparable) <$> typeInfo t) #[.agg #[.pointer (some ⟨33, 215, none⟩)]]).run Tryz.prog w = .ok (.bool true) w := by kernel_rfl
theorem tz_mth (v : Value) (w : World) : (Go.method (Tryz.prog.types.size + Made.depth) 156 v "Comparable").run Tryz.prog w = .ok (214, v) w := by kernel_rfl
theorem tz_comp : (Tryz.prog.info? 215).map (·.comparable) = some true := by kernel_rfl
theorem tz_size : (Tryz.prog.info? 217).map (·.size) = some 1 := by kernel_rfl
theorem tz_depth : Tryz.prog.types.size + Made.depth = 499 := by kernel_rfl
set_option maxRecDepth 100000 in
theorem is_same (a : Addr) (w : World) :
    Calls Tryz.prog 36 #[.iface 215 (.pointer (some a)), .iface 215 (.pointer (some a))] w fun e w' => e = .returned (.bool true) ∧ w' = w := by
  obtain ⟨i, hi, hcmp⟩ := Option.map_eq_some_iff.1 tz_comp
  obtain ⟨j, hj, hjs⟩ := Option.map_eq_some_iff.1 tz_size
  have h8 := @run_callFunc_extern Tryz.prog 47 _ Extern.ReflectliteType.typeOf Tryz.func47 (by kernel_rfl) (by kernel_rfl) (by kernel_rfl) (by kernel_rfl)
  have h32 := @run_callFunc_extern Tryz.prog 214 _ (Extern.ReflectliteType.method fun t => do Extern.Rtype.noPackHeld "Comparable" t; pure (.bool (← typeInfo t).comparable)) Tryz.func214 (by kernel_rfl) (by kernel_rfl) (by kernel_rfl) (by kernel_rfl)
  have tT := tz_typeOf
  have cT := tz_cmp
  have mR := tz_mth
  rw [tz_depth] at mR
  have heq := run_eql_iface_ptr_same (P := Tryz.prog) w a Tryz.underlying70 Tryz.underlying215 hi hcmp hj
  go_enter Tryz.func36, Tryz.ntmps36
  go_wp2
  refine wp_loop_rounds 1 ?_
  rw [rounds_succ]
  go_wp2
  go_ret
  exact ⟨rfl, rfl⟩
theorem is_con (G : Gst) (a : Addr) : Con Tryz.prog G 36 #[.iface 215 (.pointer (some a)), .iface 215 (.pointer (some a))] [] (fun _ : Unit => .bool true) (fun _ => []) := by
  refine ⟨⟨_, _, Tryz.func36, rfl, by kernel_rfl⟩, fun F w hw => ?_⟩
  refine (is_same a w).mono ?_
  rintro e w' ⟨rfl, rfl⟩
  exact ⟨(), rfl, hw⟩
end Go.Proofs.YtfpepghmbeoanaaGreatDoor
end

section
open Go Go.RowKit
namespace Go.Proofs.YtfpepghmbeoanaaGreatDoor
open Lz
theorem RdOk.piece {cs : Array Value} {o f m : Nat} {bs : List Nat} (hb : RdOk cs o bs) (h : f + m ≤ bs.length) : ∀ j v, (piece bs f m)[j]? = some v → cs[o + f + j]? = some v := by
  intro j v hv
  obtain ⟨hj, rfl⟩ := piece_get hv
  rw [Nat.add_assoc]
  exact (hb (f + j) (by omega)).1
theorem bbEmptyF_con (G : Gst) (bf : Nat) (a : Option Addr) (l c off : Nat) (lr : Int) (h : off < l) : Con Tryz.prog G 146 #[.pointer (some ⟨bf, 0, none⟩)] [BufA bf (.slice a l c) off lr] (fun _ : Unit => .bool false) (fun _ => [BufA bf (.slice a l c) off lr]) := by
  refine Con.intro Tryz.func146 rfl (by kernel_rfl) Tryz.ntmps146 (Nat.le_of_ble_eq_true rfl) ?_
  intro F
  show JC _ _ _ _ _ _ [(0, _)] _ [_, _]
  refine sR ?_
  refine oC ?_
  refine nC (JC.seq ?_)
  refine JC.regionD mixed (by kernel_rfl) ?_
  refine JD.py (Py.move xe) ?_
  refine JD.py (Py.nil xe) ?_
  refine JD.py (Py.fld fld131_0 xe xoff) ?_
  refine JD.py (Py.load scal22 xe xpick xrow) ?_
  refine JD.py (Py.lenS Tryz.underlying22 xe) ?_
  refine JD.py (Py.move xe) ?_
  refine JD.py (Py.nil xe) ?_
  refine JD.py (Py.fld fld131_1 xe xoff) ?_
  refine JD.py (Py.load scal3 xe xpick xrow) ?_
  first | refine JD.py (Py.dec (Py.leq xe xe) (by omega)) ?_ | refine JD.py (Py.undec (Py.leq xe xe) (by omega)) ?_ | refine JD.py (Py.leq xe xe) ?_
  refine JD.py (Py.assign xe) ?_
  refine JD.nilN (JX.code (JC.ret ?_))
  refine JX.end1 (Or.inl rfl) (()) Tryz.results146 ((xe).trans (by first | exact xval | (dsimp only; exact xval))) xpkE
theorem bbEmptyT_con (G : Gst) (bf : Nat) (a : Option Addr) (l c off : Nat) (lr : Int) (h : l ≤ off) : Con Tryz.prog G 146 #[.pointer (some ⟨bf, 0, none⟩)] [BufA bf (.slice a l c) off lr] (fun _ : Unit => .bool true) (fun _ => [BufA bf (.slice a l c) off lr]) := by
  refine Con.intro Tryz.func146 rfl (by kernel_rfl) Tryz.ntmps146 (Nat.le_of_ble_eq_true rfl) ?_
  intro F
  show JC _ _ _ _ _ _ [(0, _)] _ [_, _]
  refine sR ?_
  refine oC ?_
  refine nC (JC.seq ?_)
  refine JC.regionD mixed (by kernel_rfl) ?_
  refine JD.py (Py.move xe) ?_
  refine JD.py (Py.nil xe) ?_
  refine JD.py (Py.fld fld131_0 xe xoff) ?_
  refine JD.py (Py.load scal22 xe xpick xrow) ?_
  refine JD.py (Py.lenS Tryz.underlying22 xe) ?_
  refine JD.py (Py.move xe) ?_
  refine JD.py (Py.nil xe) ?_
  refine JD.py (Py.fld fld131_1 xe xoff) ?_
  refine JD.py (Py.load scal3 xe xpick xrow) ?_
  first | refine JD.py (Py.dec (Py.leq xe xe) (by omega)) ?_ | refine JD.py (Py.undec (Py.leq xe xe) (by omega)) ?_ | refine JD.py (Py.leq xe xe) ?_
  refine JD.py (Py.assign xe) ?_
  refine JD.nilN (JX.code (JC.ret ?_))
  refine JX.end1 (Or.inl rfl) (()) Tryz.results146 ((xe).trans (by first | exact xval | (dsimp only; exact xval))) xpkE
set_option maxRecDepth 100000 in
theorem bbRead_con (G : Gst) (bf b l c off pb po pl pc : Nat) (lr : Int) (cur ps : Array Value) (xs : List Nat) (m : Nat) (hb : RdOk cur 0 xs) (hl : xs.length = l) (hoff : off < l) (hlc : l ≤ c) (hc : l ≤ 1000000) (hpl : 1 ≤ pl ∧ pl ≤ pc) (hp : po + pl ≤ ps.size) (hm : min pl (l - off) = m) :
    Con Tryz.prog G 143 #[.pointer (some ⟨bf, 0, none⟩), .slice (some ⟨pb, po, none⟩) pl pc] [BufA bf (.slice (some ⟨b, 0, none⟩) l c) off lr, cel b 5 cur, cel pb 5 ps] (fun _ : Unit => .tuple #[.int .i64 (m : Int), .nilIface])
      (fun _ => [BufA bf (.slice (some ⟨b, 0, none⟩) l c) (off + m) (-1), cel b 5 cur, cel pb 5 (splice ps po (piece xs off m))]) := by
  have hr := hb.piece (f := off) (m := m) (by omega)
  rw [Nat.zero_add] at hr
  refine Con.intro Tryz.func143 rfl (by kernel_rfl) Tryz.ntmps143 (Nat.le_of_ble_eq_true rfl) ?_
  intro F
  show JC _ _ _ _ _ _ [(0, _), (1, _)] _ [_, _, _, _]
  refine sR ?_
  refine oC ?_
  refine oC ?_
  refine nC (sR ?_)
  refine oM ?_
  refine JO.py (Py.nil xe) ?_
  refine JO.py (Py.fld fld131_2 xe xoff) ?_
  refine JO.store siz129 xe ev_const (by first | rfl | assumption) xpick xsize xnorm ?_
  refine nC (JC.seq (sR ?_))
  refine oM ?_
  refine JO.call (Evs.cons xe Evs.nil) (bbEmptyF_con G bf (some ⟨b, 0, none⟩) l c off 0 hoff) xpkE ?_
  rintro _
  show JO _ _ _ _ _ _ _ ((10, _) :: _) _ (_ :: _ :: _ :: _ :: _)
  refine nC ?_
  refine cF ?_
  refine JC.skip (JX.code (JC.seq ?_))
  refine JC.regionM [(0, true), (1, true), (2, true), (3, true), (4, true), (5, true), (6, true), (7, true), (8, true), (9, true), (10, false), (11, true)] mixed (by kernel_rfl) ?_
  refine JM.py ao ⟨fun _ => Py.move xe⟩ ?_
  refine JM.py ao ⟨fun _ => Py.move xe⟩ ?_
  refine JM.py ao ⟨fun _ => Py.nil xe⟩ ?_
  refine JM.py ao ⟨fun _ => Py.fld fld131_0 xe xoff⟩ ?_
  refine JM.ld ao scal22 xe xpick xrow ?_
  refine JM.py ao ⟨fun _ => Py.move xe⟩ ?_
  refine JM.py ao ⟨fun _ => Py.nil xe⟩ ?_
  refine JM.py ao ⟨fun _ => Py.fld fld131_1 xe xoff⟩ ?_
  refine JM.ld ao scal3 xe xpick xrow ?_
  refine JM.py ao ⟨fun _ => Py.slc (l := off) (h := l) (p := off) (q := l - off) (c := c - off) Tryz.underlying22 siz5 xe (Bd.some xe (by omega)) Bd.none (by omega) (by omega) (by omega) (by omega) (by omega) (by omega)⟩ ?_
  refine JM.eff ao ?_
  refine JO.copy (news := piece xs off m) (cs' := splice ps po (piece xs off m)) Tryz.underlying22 info5 xe xe (piece_len xs off m) (by omega) xpick (Reads.cel (o := off) xpick hr) (by omega) (piece_one xs off m) (by unfold splice; rw [piece_len]) ?_
  refine JO.nil ?_
  refine JX.mix (Kept.drop (Forced.trans (q := 9) (Forced.step (by kernel_rfl)) (Forced.step (by kernel_rfl))) (Kept.drop (Forced.trans (q := 9) (Forced.step (by kernel_rfl)) (Forced.step (by kernel_rfl))) Kept.nil)) ?_
  refine JM.py ao ⟨fun _ => Py.assign xe⟩ ?_
  refine JM.nil (JX.code (sR ?_))
  refine oM ?_
  refine JO.py (Py.nil xe) ?_
  refine JO.py (Py.fld fld131_1 xe xoff) ?_
  refine JO.py (Py.load scal3 xe xpick xrow) ?_
  refine oM ?_
  refine JO.py (Py.add xe xe wI) ?_
  refine JO.py (Py.nil xe) ?_
  refine JO.py (Py.fld fld131_1 xe xoff) ?_
  refine JO.store siz3 xe xe (by first | rfl | assumption) xpick xsize xnorm ?_
  refine nC (JC.seq (sR ?_))
  refine oM ?_
  first | refine oD (Py.gtr xe ev_const) ?_ | refine oU (Py.gtr xe ev_const) ?_ | refine JO.py (Py.gtr xe ev_const) ?_
  refine nC ?_
  refine cT ?_
  refine JC.region ?_
  refine oM ?_
  refine JO.py (Py.nil xe) ?_
  refine JO.py (Py.fld fld131_2 xe xoff) ?_
  refine JO.store siz129 xe ev_const (by first | rfl | assumption) xpick xsize xnorm ?_
  refine nC (sR ?_)
  refine oM ?_
  refine oA ?_
  refine oC ?_
  refine nC (JC.ret ?_)
  refine JX.end2 (Or.inl rfl) (()) Tryz.results143 (tup2 ((xe).trans (by first | exact xval | (dsimp only; exact xval))) ((xe).trans (by first | exact xval | (dsimp only; exact xval)))) xpkE
theorem bbReset_con (G : Gst) (bf b l c off : Nat) (lr : Int) (hc : l ≤ c) (hl : 0 < c) : Con Tryz.prog G 76 #[.pointer (some ⟨bf, 0, none⟩)] [BufA bf (.slice (some ⟨b, 0, none⟩) l c) off lr] (fun _ : Unit => .tuple #[]) (fun _ => [BufA bf (.slice (some ⟨b, 0, none⟩) 0 c) 0 0]) := by
  refine Con.intro Tryz.func76 rfl (by kernel_rfl) Tryz.ntmps76 (Nat.le_of_ble_eq_true rfl) ?_
  intro F
  show JC _ _ _ _ _ _ [(0, _)] _ [_, _]
  refine sR ?_
  refine oM ?_
  refine oM ?_
  refine JO.py (Py.nil xe) ?_
  refine JO.py (Py.fld fld131_0 xe xoff) ?_
  refine JO.py (Py.load scal22 xe xpick xrow) ?_
  refine JO.py (Py.slc (l := 0) (h := 0) (p := 0) (q := 0) (c := c) Tryz.underlying22 siz5 xe Bd.none (Bd.some ev_const (by omega)) (by omega) (by omega) (by omega) (by omega) (by omega) (by omega)) ?_
  refine JO.py (Py.nil xe) ?_
  refine JO.py (Py.fld fld131_0 xe xoff) ?_
  refine JO.store siz22 xe xe (by first | rfl | assumption) xpick xsize xnorm ?_
  refine nC (sR ?_)
  refine oM ?_
  refine JO.py (Py.nil xe) ?_
  refine JO.py (Py.fld fld131_1 xe xoff) ?_
  refine JO.store siz3 xe ev_const (by first | rfl | assumption) xpick xsize xnorm ?_
  refine nC (JC.region ?_)
  refine oM ?_
  refine JO.py (Py.nil xe) ?_
  refine JO.py (Py.fld fld131_2 xe xoff) ?_
  refine JO.store siz129 xe ev_const (by first | rfl | assumption) xpick xsize xnorm ?_
  refine JO.nil ?_
  refine JX.end0 (Or.inr rfl) (()) Tryz.results76 rfl xpkE
set_option maxRecDepth 100000 in
theorem rdRead_con (G : Gst) (r b o m c i pb po pl pc : Nat) (p : Int) (cs ps : Array Value) (Tb : TypeId) (fr : Nat × Nat) (xs : List Nat) (n : Nat) (hb : RdOk cs o xs) (hl : xs.length = m) (hi : i < m) (hmc : m ≤ c) (hc : m ≤ 1000000) (hpl : 1 ≤ pl ∧ pl ≤ pc) (hp : po + pl ≤ ps.size) (hn : min pl (m - i) = n) :
    Con Tryz.prog G 139 #[.pointer (some ⟨r, 0, none⟩), .slice (some ⟨pb, po, none⟩) pl pc] [BrA r (.slice (some ⟨b, o, none⟩) m c) i p, blk b (.cells cs Tb fr), cel pb 5 ps] (fun _ : Unit => .tuple #[.int .i64 (n : Int), .nilIface])
      (fun _ => [BrA r (.slice (some ⟨b, o, none⟩) m c) (i + n) (-1), blk b (.cells cs Tb fr), cel pb 5 (splice ps po (piece xs i n))]) := by
  have hr := hb.piece (f := i) (m := n) (by omega)
  refine Con.intro Tryz.func139 rfl (by kernel_rfl) Tryz.ntmps139 (Nat.le_of_ble_eq_true rfl) ?_
  intro F
  show JC _ _ _ _ _ _ [(0, _), (1, _)] _ [_, _, _, _]
  refine sR ?_
  refine oC ?_
  refine oC ?_
  refine nC (JC.seq (JC.seq ?_))
  refine JC.regionD mixed (by kernel_rfl) ?_
  refine JD.py (Py.move xe) ?_
  refine JD.py (Py.nil xe) ?_
  refine JD.py (Py.fld fld96_1 xe xoff) ?_
  refine JD.py (Py.load scal2 xe xpick xrow) ?_
  refine JD.py (Py.move xe) ?_
  refine JD.py (Py.nil xe) ?_
  refine JD.py (Py.fld fld96_0 xe xoff) ?_
  refine JD.py (Py.load scal22 xe xpick xrow) ?_
  refine JD.py (Py.lenS Tryz.underlying22 xe) ?_
  first | refine JD.py (Py.dec (Py.geq xe xe) (by omega)) ?_ | refine JD.py (Py.undec (Py.geq xe xe) (by omega)) ?_ | refine JD.py (Py.geq xe xe) ?_
  refine JD.nilN (JX.code ?_)
  refine cF ?_
  refine JC.skip (JX.code (sR ?_))
  refine oM ?_
  refine JO.py (Py.nil xe) ?_
  refine JO.py (Py.fld fld96_2 xe xoff) ?_
  refine JO.store siz3 xe ev_const (by first | rfl | assumption) xpick xsize xnorm ?_
  refine nC (JC.seq ?_)
  refine JC.regionM [(0, true), (1, true), (2, true), (3, true), (4, true), (5, true), (6, true), (7, true), (8, true), (9, true), (10, false), (11, true)] mixed (by kernel_rfl) ?_
  refine JM.py ao ⟨fun _ => Py.move xe⟩ ?_
  refine JM.py ao ⟨fun _ => Py.move xe⟩ ?_
  refine JM.py ao ⟨fun _ => Py.nil xe⟩ ?_
  refine JM.py ao ⟨fun _ => Py.fld fld96_0 xe xoff⟩ ?_
  refine JM.ld ao scal22 xe xpick xrow ?_
  refine JM.py ao ⟨fun _ => Py.move xe⟩ ?_
  refine JM.py ao ⟨fun _ => Py.nil xe⟩ ?_
  refine JM.py ao ⟨fun _ => Py.fld fld96_1 xe xoff⟩ ?_
  refine JM.ld ao scal2 xe xpick xrow ?_
  refine JM.py ao ⟨fun _ => Py.slc (l := i) (h := m) (p := o + i) (q := m - i) (c := c - i) Tryz.underlying22 siz5 xe (Bd.some xe (by omega)) Bd.none (by omega) (by omega) (by omega) (by omega) (by omega) (by omega)⟩ ?_
  refine JM.eff ao ?_
  refine JO.copy (news := piece xs i n) (cs' := splice ps po (piece xs i n)) Tryz.underlying22 info5 xe xe (piece_len xs i n) (by omega) xpick (Reads.cel (o := o + i) xpick hr) (by omega) (piece_one xs i n) (by unfold splice; rw [piece_len]) ?_
  refine JO.nil ?_
  refine JX.mix (Kept.drop (Forced.trans (q := 9) (Forced.step (by kernel_rfl)) (Forced.step (by kernel_rfl))) (Kept.drop (Forced.trans (q := 9) (Forced.step (by kernel_rfl)) (Forced.step (by kernel_rfl))) Kept.nil)) ?_
  refine JM.py ao ⟨fun _ => Py.assign xe⟩ ?_
  refine JM.nil (JX.code (sR ?_))
  refine oM ?_
  refine JO.py (Py.nil xe) ?_
  refine JO.py (Py.fld fld96_1 xe xoff) ?_
  refine JO.py (Py.load scal2 xe xpick xrow) ?_
  refine oM ?_
  refine JO.py (Py.add xe xe wI) ?_
  refine JO.py (Py.nil xe) ?_
  refine JO.py (Py.fld fld96_1 xe xoff) ?_
  refine JO.store siz2 xe xe (by first | rfl | assumption) xpick xsize xnorm ?_
  refine nC (JC.ret ?_)
  refine JX.end2 (Or.inl rfl) (()) Tryz.results139 (tup2 ((xe).trans (by first | exact xval | (dsimp only; exact xval))) ((xe).trans (by first | exact xval | (dsimp only; exact xval)))) xpkE
theorem rdReadE_con (G : Gst) (r b o m c i pb po pl pc : Nat) (p : Int) (cs ps : Array Value) (hi : m ≤ i) (ea : Addr) (eT : TypeId) (ef : Nat × Nat) :
    Con Tryz.prog G 139 #[.pointer (some ⟨r, 0, none⟩), .slice (some ⟨pb, po, none⟩) pl pc] [BrA r (.slice (some ⟨b, o, none⟩) m c) i p, EofA ea eT ef] (fun _ : Unit => .tuple #[.int .i64 0, eofV ea])
      (fun _ => [BrA r (.slice (some ⟨b, o, none⟩) m c) i p, EofA ea eT ef]) := by
  refine Con.intro Tryz.func139 rfl (by kernel_rfl) Tryz.ntmps139 (Nat.le_of_ble_eq_true rfl) ?_
  intro F
  show JC _ _ _ _ _ _ [(0, _), (1, _)] _ [_, _, _]
  refine sR ?_
  refine oC ?_
  refine oC ?_
  refine nC (JC.seq (JC.seq ?_))
  refine JC.regionD mixed (by kernel_rfl) ?_
  refine JD.py (Py.move xe) ?_
  refine JD.py (Py.nil xe) ?_
  refine JD.py (Py.fld fld96_1 xe xoff) ?_
  refine JD.py (Py.load scal2 xe xpick xrow) ?_
  refine JD.py (Py.move xe) ?_
  refine JD.py (Py.nil xe) ?_
  refine JD.py (Py.fld fld96_0 xe xoff) ?_
  refine JD.py (Py.load scal22 xe xpick xrow) ?_
  refine JD.py (Py.lenS Tryz.underlying22 xe) ?_
  first | refine JD.py (Py.dec (Py.geq xe xe) (by omega)) ?_ | refine JD.py (Py.undec (Py.geq xe xe) (by omega)) ?_ | refine JD.py (Py.geq xe xe) ?_
  refine JD.nilN (JX.code ?_)
  refine cT ?_
  refine JC.seq ?_
  refine JC.regionD mixed (by kernel_rfl) ?_
  refine JD.py (Py.load scal70 ev_glob xpick xrow) ?_
  refine JD.py (Py.assign ev_const) ?_
  refine JD.py (Py.assign xe) ?_
  refine JD.nilN (JX.code (JC.ret (JX.ret ?_)))
  refine JX.end2 (Or.inl rfl) (()) Tryz.results139 (tup2 ((xe).trans (by first | exact xval | (dsimp only; exact xval))) ((xe).trans (by first | exact xval | (dsimp only; exact xval)))) xpkE
end Go.Proofs.YtfpepghmbeoanaaGreatDoor
end

section
open Go Go.RowKit
namespace Go.Proofs.YtfpepghmbeoanaaGreatDoor
open Lz
theorem piece_eq {all : List Nat} {i m : Nat} (h : i + m ≤ all.length) : piece all i m = u8s ((all.drop i).take m) := by
  apply List.ext_getElem?
  intro j
  by_cases hj : j < m
  · have : i + j < all.length := by omega
    simp [piece, u8s, hj, List.getElem?_take, List.getElem?_drop, this]
  · simp [piece, u8s, hj]; omega
/-- Where the bytes of LZMA lie: the readers' blocks, the header's row, the stream's row. -/
structure LzP where
  mb : Nat
  bf : Nat
  hb : Nat
  hc : Nat
  hcur : Array Value
  lr : Int
  r : Nat
  sb : Nat
  m : Nat
  sc : Nat
  ss : Array Value
  ch : Nat
  cs : Nat
  hdr : List Nat
  stream : List Nat
structure LzP.Ok (X : LzP) : Prop where
  h : RdOk X.hcur 0 X.hdr
  hl : X.hdr.length = 13
  hs : X.hcur.size = X.hc
  hc : 13 ≤ X.hc
  s : RdOk X.ss 0 X.stream
  sl : X.stream.length = X.m
  sm : X.m ≤ 1000000
abbrev LzP.mbA (X : LzP) : Asn := cel X.mb 173 #[.pointer (some ⟨X.bf, 0, none⟩), .iface 88 (.agg #[.pointer (some ⟨X.r, 0, none⟩)]), .iface 210 (.pointer (some ⟨X.ch, 0, none⟩))]
/-- Nothing is read yet. -/
abbrev LzP.heads (X : LzP) (ea : Addr) (eT : TypeId) (ef : Nat × Nat) : List Asn :=
  [X.mbA, cel X.ch 212 #[.slice (some ⟨X.cs, 0, none⟩) 2 2], cel X.cs 113 #[.iface 106 (.pointer (some ⟨X.bf, 0, none⟩)), .iface 88 (.agg #[.pointer (some ⟨X.r, 0, none⟩)])],
    BufA X.bf (.slice (some ⟨X.hb, 0, none⟩) 13 X.hc) 0 X.lr, cel X.hb 5 X.hcur, BrA X.r (.slice (some ⟨X.sb, 0, none⟩) X.m X.sc) 0 (-1), cel X.sb 5 X.ss, EofA ea eT ef]
def LzP.HdA (X : LzP) (ea : Addr) (eT : TypeId) (ef : Nat × Nat) : Asn := Ex fun _ : Unit => X.heads ea eT ef
/-- These bytes of the stream are left. -/
def LzP.SrA (X : LzP) (rest : List Nat) : Asn := Ex fun g : {g : Nat × Int // g.1 + rest.length = X.m ∧ X.stream.drop g.1 = rest} =>
  [X.mbA, BufA X.bf (.slice (some ⟨X.hb, 0, none⟩) 13 X.hc) 13 (-1), BrA X.r (.slice (some ⟨X.sb, 0, none⟩) X.m X.sc) g.1.1 g.1.2, cel X.sb 5 X.ss]
theorem LzP.byte (G : Gst) (X : LzP) (hX : X.Ok) (x : Nat) (rest : List Nat) (hx : x < 256) : Con Tryz.prog G 224 [.pointer (some ⟨X.mb, 0, none⟩)].toArray [X.SrA (x :: rest)] (fun _ : Unit => .tuple #[vu8 x, .nilIface]) (fun _ => [X.SrA rest]) := by
  obtain ⟨mb, bf, hb, hc, hcur, lr, r, sb, m, sc, ss, ch, cs, hdr, stream⟩ := X
  obtain ⟨-, -, -, h13, hs, hsl, hsm⟩ := hX
  dsimp only at h13 hs hsl hsm
  have hm := mth88B (.pointer (some ⟨r, 0, none⟩))
  refine Con.intro Tryz.func224 rfl (by kernel_rfl) Tryz.ntmps224 (Nat.le_of_ble_eq_true rfl) ?_
  intro F
  show JC _ _ _ _ _ _ [(0, _)] _ [_, _]
  refine JC.as (A := LzP.SrA ⟨mb, bf, hb, hc, hcur, lr, r, sb, m, sc, ss, ch, cs, hdr, stream⟩ (x :: rest)) (A' := Ex fun g : {g : Nat × Int // g.1 + (x :: rest).length = m ∧ stream.drop g.1 = x :: rest} => [cel mb 173 #[.pointer (some ⟨bf, 0, none⟩), .iface 88 (.agg #[.pointer (some ⟨r, 0, none⟩)]), .iface 210 (.pointer (some ⟨ch, 0, none⟩))], BufA bf (.slice (some ⟨hb, 0, none⟩) 13 hc) 13 (-1), BrA r (.slice (some ⟨sb, 0, none⟩) m sc) g.1.1 g.1.2, cel sb 5 ss]) xpick (rfl) ?_
  refine JC.open xpick ?_
  rintro ⟨⟨i, p⟩, hi, hd⟩
  show JC _ _ _ _ _ _ _ _ (_ :: _ :: _ :: _ :: _ :: _)
  dsimp only at hi hd ⊢
  rw [List.length_cons] at hi
  have hlt : i < stream.length := by omega
  have hxi : stream.getD i 0 = x := by
    have := congrArg (·[0]?) hd
    simp only [List.getElem?_drop, Nat.add_zero, List.getElem?_cons_zero] at this
    rw [List.getD_eq_getElem?_getD, this]; rfl
  have hcell : ss[0 + i]? = some (vu8 x) := by rw [(hs i hlt).1, hxi]
  have hd2 : stream.drop (i + 1) = rest := by
    have := congrArg (List.drop 1) hd
    simpa [List.drop_drop] using this
  refine sR ?_
  refine oC ?_
  refine oC ?_
  refine nC (JC.seq (sR ?_))
  refine oM ?_
  refine JO.py (Py.nil xe) ?_
  refine JO.py (Py.fld fld173_0 xe xoff) ?_
  refine JO.py (Py.load scal106 xe xpick xrow) ?_
  refine JO.call (Evs.cons xe Evs.nil) (bufLen_con G bf (some ⟨hb, 0, none⟩) 13 hc 13 (-1) (Nat.le_refl _) (by decide)) xpkE ?_
  rintro _
  show JO _ _ _ _ _ _ _ ((8, _) :: _) _ (_ :: _ :: _)
  first | refine oD (Py.gtr xe ev_const) ?_ | refine oU (Py.gtr xe ev_const) ?_ | refine JO.py (Py.gtr xe ev_const) ?_
  refine nC ?_
  refine cF ?_
  refine JC.region ?_
  refine oM ?_
  refine JO.py (Py.nil xe) ?_
  refine JO.py (Py.fld fld173_1 xe xoff) ?_
  refine JO.py (Py.load scal169 xe xpick xrow) ?_
  refine JO.invoke xe Evs.nil (hm) (rdByte_con G r sb 0 m sc i p ss 5 (0, 0) x (by omega) hcell hsm) xpkE ?_
  rintro _
  show JO _ _ _ _ _ _ _ ((23, _) :: _) _ (_ :: _ :: _ :: _)
  refine oM ?_
  refine JO.py (Py.extrI xe xix) ?_
  refine JO.py (Py.extrI xe xix) ?_
  refine oA ?_
  refine oA ?_
  refine nC (JC.seq (sR ?_))
  refine oM ?_
  first | refine JO.py (Py.neqNil Tryz.underlying70 xe rfl) ?_ | refine JO.py (Py.neqHeld Tryz.underlying70 xe rfl) ?_
  refine nC ?_
  refine cF ?_
  refine JC.skip (JX.code (sR ?_))
  refine oM ?_
  refine oM ?_
  refine oA ?_
  refine oA ?_
  refine nC (JC.ret ?_)
  refine JX.shut (f := fun g : {g : Nat × Int // g.1 + rest.length = m ∧ stream.drop g.1 = rest} => [cel mb 173 #[.pointer (some ⟨bf, 0, none⟩), .iface 88 (.agg #[.pointer (some ⟨r, 0, none⟩)]), .iface 210 (.pointer (some ⟨ch, 0, none⟩))], BufA bf (.slice (some ⟨hb, 0, none⟩) 13 hc) 13 (-1), BrA r (.slice (some ⟨sb, 0, none⟩) m sc) g.1.1 g.1.2, cel sb 5 ss]) ⟨(i + 1, -1), by dsimp only; omega, hd2⟩ xpicks ?_
  refine JX.as (A := Ex fun g : {g : Nat × Int // g.1 + rest.length = m ∧ stream.drop g.1 = rest} => [cel mb 173 #[.pointer (some ⟨bf, 0, none⟩), .iface 88 (.agg #[.pointer (some ⟨r, 0, none⟩)]), .iface 210 (.pointer (some ⟨ch, 0, none⟩))], BufA bf (.slice (some ⟨hb, 0, none⟩) 13 hc) 13 (-1), BrA r (.slice (some ⟨sb, 0, none⟩) m sc) g.1.1 g.1.2, cel sb 5 ss]) (A' := LzP.SrA ⟨mb, bf, hb, hc, hcur, lr, r, sb, m, sc, ss, ch, cs, hdr, stream⟩ rest) xpick (rfl) ?_
  refine JX.end2 (Or.inl rfl) (()) Tryz.results224 (tup2 ((xe).trans (by first | exact xval | (dsimp only; exact xval))) ((xe).trans (by first | exact xval | (dsimp only; exact xval)))) xpkE
def LzP.src (G : Gst) (X : LzP) (hX : X.Ok) : ByteSrc G := { t := 171, u := .pointer (some ⟨X.mb, 0, none⟩), f := 224, rcv := .pointer (some ⟨X.mb, 0, none⟩), A := X.SrA, m := mth171B _, con := X.byte G hX }
theorem chRead_con (G : Gst) (ch cs bf hb hc : Nat) (hcur ps : Array Value) (Z : Value) (hdr : List Nat) (pb : Nat) (lr : Int) (h : RdOk hcur 0 hdr) (hl : hdr.length = 13) (hs : 13 ≤ hc) (hps : ps.size = 13) (ea : Addr) (eT : TypeId) (ef : Nat × Nat) :
    Con Tryz.prog G 238 #[.pointer (some ⟨ch, 0, none⟩), .slice (some ⟨pb, 0, none⟩) 13 13] [cel ch 212 #[.slice (some ⟨cs, 0, none⟩) 2 2], cel cs 113 #[.iface 106 (.pointer (some ⟨bf, 0, none⟩)), Z], BufA bf (.slice (some ⟨hb, 0, none⟩) 13 hc) 0 lr, cel hb 5 hcur, cel pb 5 ps, EofA ea eT ef]
      (fun _ : Unit => .tuple #[.int .i64 (13 : Nat), .nilIface]) (fun _ => [BufA bf (.slice (some ⟨hb, 0, none⟩) 13 hc) 13 (-1), cel pb 5 (u8s hdr).toArray, EofA ea eT ef]) := by
  have hm := mth106R (.pointer (some ⟨bf, 0, none⟩))
  have hsp : splice ps 0 (piece hdr 0 13) = (u8s hdr).toArray := by
    have e : piece hdr 0 13 = u8s hdr := by rw [piece_eq (by omega), List.drop_zero, List.take_of_length_le (by omega)]
    unfold splice
    rw [e]
    have : (u8s hdr).length = 13 := by rw [u8s_len, hl]
    rw [this, List.drop_of_length_le (by simp [hps])]
    simp
  have hrd := bbRead_con G bf hb 13 hc 0 pb 0 13 13 lr hcur ps hdr 13 h hl (by decide) hs (by decide) (by decide) (by omega) (by decide)
  rw [hsp] at hrd
  refine Con.intro Tryz.func238 rfl (by kernel_rfl) Tryz.ntmps238 (Nat.le_of_ble_eq_true rfl) ?_
  intro F
  show JC _ _ _ _ _ _ [(0, _), (1, _)] _ [_, _, _, _, _, _, _]
  refine sR ?_
  refine oC ?_
  refine oC ?_
  refine nC (JC.seq (JC.block ?_))
  refine JC.unroll 0 ?_
  refine JC.seq (sR ?_)
  refine oM ?_
  refine JO.py (Py.nil xe) ?_
  refine JO.py (Py.fld fld212_0 xe xoff) ?_
  refine JO.py (Py.load scal209 xe xpick xrow) ?_
  refine JO.py (Py.lenS Tryz.underlying209 xe) ?_
  first | refine oD (Py.gtr xe ev_const) ?_ | refine oU (Py.gtr xe ev_const) ?_ | refine JO.py (Py.gtr xe ev_const) ?_
  refine nC ?_
  refine cT ?_
  refine JC.skip (JX.code (JC.block (sR ?_)))
  refine oM ?_
  refine JO.py (Py.nil xe) ?_
  refine JO.py (Py.fld fld212_0 xe xoff) ?_
  refine JO.py (Py.load scal209 xe xpick xrow) ?_
  refine JO.py (Py.idxS Tryz.underlying209 siz113 xe ev_const (by omega) xidx xmult) ?_
  refine JO.py (Py.load scal113 xe xpick xrow) ?_
  refine oM ?_
  refine JO.invoke xe (Evs.cons xe Evs.nil) (hm) hrd xpkE ?_
  rintro _
  show JO _ _ _ _ _ _ _ ((20, _) :: _) _ (_ :: _ :: _ :: _ :: _)
  refine oM ?_
  refine JO.py (Py.extrI xe xix) ?_
  refine JO.py (Py.extrI xe xix) ?_
  refine oA ?_
  refine oA ?_
  refine nC (JC.seq (sR ?_))
  refine oM ?_
  refine JO.py (Py.load scal70 ev_glob xpick xrow) ?_
  refine JO.py (Py.eqlNH Tryz.underlying70 xe xe) ?_
  refine nC ?_
  refine cF ?_
  refine JC.skip (JX.code (sR ?_))
  refine oM ?_
  first | refine oD (Py.gtr xe ev_const) ?_ | refine oU (Py.gtr xe ev_const) ?_ | refine JO.py (Py.gtr xe ev_const) ?_
  refine oM ?_
  first | (refine gF ?_; (refine oM ?_)) | refine kT ?_
  first | (refine gF ?_; (refine JO.py (Py.load scal70 ev_glob xpick xrow) ?_)) | refine kT ?_
  refine kT ?_
  first | refine JO.py (Py.pickT xe ev_const) ?_ | refine JO.py (Py.pickF xe xe) ?_
  refine nC ?_
  refine cT ?_
  refine JC.seq (sR ?_)
  refine oM ?_
  refine JO.py (Py.load scal70 ev_glob xpick xrow) ?_
  refine JO.py (Py.eqlNH Tryz.underlying70 xe xe) ?_
  refine oM ?_
  first | (refine gT ?_; (refine oM ?_)) | refine kF ?_
  first | (refine gT ?_; (refine JO.py (Py.nil xe) ?_)) | refine kF ?_
  first | (refine gT ?_; (refine JO.py (Py.fld fld212_0 xe xoff) ?_)) | refine kF ?_
  first | (refine gT ?_; (refine JO.py (Py.load scal209 xe xpick xrow) ?_)) | refine kF ?_
  first | (refine gT ?_; (refine JO.py (Py.lenS Tryz.underlying209 xe) ?_)) | refine kF ?_
  first | (refine gT ?_; (first | refine oD (Py.gtr xe ev_const) ?_ | refine oU (Py.gtr xe ev_const) ?_ | refine JO.py (Py.gtr xe ev_const) ?_)) | refine kF ?_
  first | refine JO.py (Py.pickT xe xe) ?_ | refine JO.py (Py.pickF xe ev_const) ?_
  refine nC ?_
  refine cF ?_
  refine JC.skip (JX.code (sR ?_))
  refine oM ?_
  refine oM ?_
  refine oA ?_
  refine oA ?_
  refine nC (JC.ret (JX.blockR (JX.ret (JX.blockR (JX.ret ?_)))))
  refine JX.end2 (Or.inl rfl) (()) Tryz.results238 (tup2 ((xe).trans (by first | exact xval | (dsimp only; exact xval))) ((xe).trans (by first | exact xval | (dsimp only; exact xval)))) xpkE
set_option maxRecDepth 100000 in
theorem LzP.head (G : Gst) (X : LzP) (hX : X.Ok) (ea : Addr) (eT : TypeId) (ef : Nat × Nat) (b : Nat) : Con Tryz.prog G 223 #[.pointer (some ⟨X.mb, 0, none⟩), .slice (some ⟨b, 0, none⟩) 13 13] [X.HdA ea eT ef, cel b 5 (Array.replicate 13 (.int .u8 0))]
    (fun _ : Unit => .tuple #[.int .i64 (13 : Nat), .nilIface]) (fun _ => [Two (X.SrA X.stream) (EofA ea eT ef), cel b 5 (u8s X.hdr).toArray]) := by
  obtain ⟨mb, bf, hb, hc, hcur, lr, r, sb, m, sc, ss, ch, cs, hdr, stream⟩ := X
  obtain ⟨h, hl, hsz, h13, hs, hsl, hsm⟩ := hX
  dsimp only at h hl h13 hs hsl hsm ⊢
  have hm := mth210R (.pointer (some ⟨ch, 0, none⟩))
  refine Con.intro Tryz.func223 rfl (by kernel_rfl) Tryz.ntmps223 (Nat.le_of_ble_eq_true rfl) ?_
  intro F
  show JC _ _ _ _ _ _ [(0, _), (1, _)] _ [_, _, _]
  refine JC.as (A := LzP.HdA ⟨mb, bf, hb, hc, hcur, lr, r, sb, m, sc, ss, ch, cs, hdr, stream⟩ ea eT ef) (A' := Ex fun _ : Unit => LzP.heads ⟨mb, bf, hb, hc, hcur, lr, r, sb, m, sc, ss, ch, cs, hdr, stream⟩ ea eT ef) xpick (rfl) ?_
  refine JC.open xpick ?_
  rintro _
  show JC _ _ _ _ _ _ _ _ (_ :: _ :: _ :: _ :: _ :: _ :: _ :: _ :: _ :: _ :: _)
  refine sR ?_
  refine oC ?_
  refine oC ?_
  refine nC (sR ?_)
  refine oM ?_
  refine JO.py (Py.nil xe) ?_
  refine JO.py (Py.fld fld173_2 xe xoff) ?_
  refine JO.py (Py.load scal113 xe xpick xrow) ?_
  refine oM ?_
  refine JO.invoke xe (Evs.cons xe Evs.nil) (hm) (chRead_con G ch cs bf hb hc hcur (Array.replicate 13 (.int .u8 0)) (.iface 88 (.agg #[.pointer (some ⟨r, 0, none⟩)])) hdr b lr h hl h13 (by simp) ea eT ef) xpkE ?_
  rintro _
  show JO _ _ _ _ _ _ _ ((14, _) :: _) _ (_ :: _ :: _ :: _ :: _)
  refine oM ?_
  refine JO.py (Py.extrI xe xix) ?_
  refine JO.py (Py.extrI xe xix) ?_
  refine oA ?_
  refine oA ?_
  refine nC (JC.seq (sR ?_))
  refine oM ?_
  first | refine JO.py (Py.neqNil Tryz.underlying70 xe rfl) ?_ | refine JO.py (Py.neqHeld Tryz.underlying70 xe rfl) ?_
  refine nC ?_
  refine cF ?_
  refine JC.skip (JX.code (sR ?_))
  refine oM ?_
  refine oM ?_
  refine oA ?_
  refine oA ?_
  refine nC (JC.ret ?_)
  refine JX.shut (f := fun g : {g : Nat × Int // g.1 + stream.length = m ∧ stream.drop g.1 = stream} => [cel mb 173 #[.pointer (some ⟨bf, 0, none⟩), .iface 88 (.agg #[.pointer (some ⟨r, 0, none⟩)]), .iface 210 (.pointer (some ⟨ch, 0, none⟩))], BufA bf (.slice (some ⟨hb, 0, none⟩) 13 hc) 13 (-1), BrA r (.slice (some ⟨sb, 0, none⟩) m sc) g.1.1 g.1.2, cel sb 5 ss]) ⟨(0, -1), by dsimp only; omega, List.drop_zero⟩ xpicks ?_
  refine JX.as (A := Ex fun g : {g : Nat × Int // g.1 + stream.length = m ∧ stream.drop g.1 = stream} => [cel mb 173 #[.pointer (some ⟨bf, 0, none⟩), .iface 88 (.agg #[.pointer (some ⟨r, 0, none⟩)]), .iface 210 (.pointer (some ⟨ch, 0, none⟩))], BufA bf (.slice (some ⟨hb, 0, none⟩) 13 hc) 13 (-1), BrA r (.slice (some ⟨sb, 0, none⟩) m sc) g.1.1 g.1.2, cel sb 5 ss]) (A' := LzP.SrA ⟨mb, bf, hb, hc, hcur, lr, r, sb, m, sc, ss, ch, cs, hdr, stream⟩ stream) xpick (rfl) ?_
  refine JX.shut (f := fun _ : Unit => [LzP.SrA ⟨mb, bf, hb, hc, hcur, lr, r, sb, m, sc, ss, ch, cs, hdr, stream⟩ stream, EofA ea eT ef]) () xpicks ?_
  refine JX.as (A := Ex fun _ : Unit => [LzP.SrA ⟨mb, bf, hb, hc, hcur, lr, r, sb, m, sc, ss, ch, cs, hdr, stream⟩ stream, EofA ea eT ef]) (A' := Two (LzP.SrA ⟨mb, bf, hb, hc, hcur, lr, r, sb, m, sc, ss, ch, cs, hdr, stream⟩ stream) (EofA ea eT ef)) xpick (rfl) ?_
  refine JX.end2 (Or.inl rfl) (()) Tryz.results223 (tup2 ((xe).trans (by first | exact xval | (dsimp only; exact xval))) ((xe).trans (by first | exact xval | (dsimp only; exact xval)))) xpkE
end Go.Proofs.YtfpepghmbeoanaaGreatDoor
end

section
open Go Go.RowKit
namespace Go.Proofs.YtfpepghmbeoanaaGreatDoor
open Lz
section
variable {P : Program} {G : Gst} {n : Nat} {base : Nat → Value} {L : List (Nat × Value)} {As r : List Asn}
theorem Py.nilI {x : Operand} {t : TypeId} {v : Value} (h : ev n base L x = .iface t v) : Py P G n base L As (.nilCheck x) (.iface t v) := by
  refine ⟨fun w _ o ho => ?_⟩; simp [execOp, ho, h]
end
theorem mth285R (p : Value) : Mth Tryz.prog 285 p "Read" 246 p := fun w => by kernel_rfl
theorem mth274B (p : Value) : Mth Tryz.prog 274 p "ReadByte" 245 p := fun w => by kernel_rfl
theorem br285 : (Tryz.prog.info? 285).map (fun i => (lacking #[("ReadByte", 290)] i.methods).isEmpty) = some false := by kernel_rfl
theorem zero169 : (Tryz.prog.info? 169).map (·.zero) = some (some .nilIface) := by kernel_rfl
/-- A reader over a text. -/
structure ZP where
  r : Nat
  sb : Nat
  m : Nat
  sc : Nat
  ss : Array Value
  stream : List Nat
structure ZP.Ok (Z : ZP) : Prop where
  s : RdOk Z.ss 0 Z.stream
  sl : Z.stream.length = Z.m
  sm : Z.m ≤ 1000000
  mc : Z.m ≤ Z.sc
def ZP.A (Z : ZP) (i : Nat) : Asn := Ex fun p : Int => [BrA Z.r (.slice (some ⟨Z.sb, 0, none⟩) Z.m Z.sc) i p, cel Z.sb 5 Z.ss]
abbrev ZP.v (Z : ZP) : Value := .iface 88 (.agg #[.pointer (some ⟨Z.r, 0, none⟩)])
theorem zRead_con (G : Gst) (Z : ZP) (hZ : Z.Ok) (i pb po pl pc n : Nat) (ps : Array Value) (hi : i < Z.m) (hpl : 1 ≤ pl ∧ pl ≤ pc) (hp : po + pl ≤ ps.size) (hn : min pl (Z.m - i) = n) :
    Con Tryz.prog G 139 #[.pointer (some ⟨Z.r, 0, none⟩), .slice (some ⟨pb, po, none⟩) pl pc] [Z.A i, cel pb 5 ps] (fun _ : Unit => .tuple #[.int .i64 (n : Int), .nilIface]) (fun _ => [Z.A (i + n), cel pb 5 (splice ps po (piece Z.stream i n))]) := by
  refine ⟨(rdRead_con G Z.r Z.sb 0 Z.m Z.sc i pb po pl pc 0 Z.ss ps 5 (0, 0) Z.stream n hZ.s hZ.sl hi hZ.mc hZ.sm hpl hp hn).1, fun F w hw => ?_⟩
  have hw1 : Sat G w (Z.A i :: [cel pb 5 ps, F]) := hw
  obtain ⟨p, hw2⟩ := hw1.opens
  refine ((rdRead_con G Z.r Z.sb 0 Z.m Z.sc i pb po pl pc p Z.ss ps 5 (0, 0) Z.stream n hZ.s hZ.sl hi hZ.mc hZ.sm hpl hp hn).2 F w hw2).mono ?_
  rintro e w' ⟨_, rfl, hs⟩
  exact ⟨(), rfl, Sat.shuts (f := fun p : Int => [BrA Z.r (.slice (some ⟨Z.sb, 0, none⟩) Z.m Z.sc) (i + n) p, cel Z.sb 5 Z.ss]) (-1) hs⟩
theorem limReadE_con (G : Gst) (l : Nat) (T : TypeId) (R pv : Value) (tl : List Value) (ea : Addr) (eT : TypeId) (ef : Nat × Nat) :
    Con Tryz.prog G 246 #[.pointer (some ⟨l, 0, none⟩), pv] [cel l T (R :: .int .i64 0 :: tl).toArray, EofA ea eT ef] (fun _ : Unit => .tuple #[.int .i64 0, eofV ea]) (fun _ => [cel l T (R :: .int .i64 0 :: tl).toArray, EofA ea eT ef]) := by
  refine Con.intro Tryz.func246 rfl (by kernel_rfl) Tryz.ntmps246 (Nat.le_of_ble_eq_true rfl) ?_
  intro F
  show JC _ _ _ _ _ _ [(0, _), (1, _)] _ [_, _, _]
  refine sR ?_
  refine oC ?_
  refine oC ?_
  refine nC (JC.seq (sR ?_))
  refine oM ?_
  refine JO.py (Py.nil xe) ?_
  refine JO.py (Py.fld fld282_1 xe xoff) ?_
  refine JO.py (Py.load scal2 xe xpick xrow) ?_
  first | refine oD (Py.leq xe ev_const) ?_ | refine oU (Py.leq xe ev_const) ?_ | refine JO.py (Py.leq xe ev_const) ?_
  refine nC ?_
  refine cT ?_
  refine JC.seq ?_
  refine JC.regionD mixed (by kernel_rfl) ?_
  refine JD.py (Py.load scal70 ev_glob xpick xrow) ?_
  refine JD.py (Py.assign ev_const) ?_
  refine JD.py (Py.assign xe) ?_
  refine JD.nilN (JX.code (JC.ret (JX.ret ?_)))
  refine JX.end2 (Or.inl rfl) (()) Tryz.results246 (tup2 ((xe).trans (by first | exact xval | (dsimp only; exact xval))) ((xe).trans (by first | exact xval | (dsimp only; exact xval)))) xpkE
theorem limRead_con (G : Gst) (Z : ZP) (hZ : Z.Ok) (l : Nat) (T : TypeId) (tl : List Value) (N i pb po pl pc k : Nat) (ps : Array Value) (hN : 0 < N) (hi : i + N ≤ Z.m) (hpl : 1 ≤ pl ∧ pl ≤ pc ∧ pl ≤ 1000000) (hp : po + pl ≤ ps.size) (hk : min pl N = k) :
    Con Tryz.prog G 246 #[.pointer (some ⟨l, 0, none⟩), .slice (some ⟨pb, po, none⟩) pl pc] [cel l T (Z.v :: .int .i64 (N : Int) :: tl).toArray, Z.A i, cel pb 5 ps] (fun _ : Unit => .tuple #[.int .i64 (k : Int), .nilIface])
      (fun _ => [cel l T (Z.v :: .int .i64 ((N - k : Nat) : Int) :: tl).toArray, Z.A (i + k), cel pb 5 (splice ps po (piece Z.stream i k))]) := by
  have hsm := hZ.sm
  have hm := mth88R (.pointer (some ⟨Z.r, 0, none⟩))
  have hsz : 1 < (Z.v :: Value.int .i64 (N : Int) :: tl).toArray.size := by simp
  refine Con.intro Tryz.func246 rfl (by kernel_rfl) Tryz.ntmps246 (Nat.le_of_ble_eq_true rfl) ?_
  intro F
  show JC _ _ _ _ _ _ [(0, _), (1, _)] _ [_, _, _, _]
  refine sR ?_
  refine oC ?_
  refine oC ?_
  refine nC (JC.seq (sR ?_))
  refine oM ?_
  refine JO.py (Py.nil xe) ?_
  refine JO.py (Py.fld fld282_1 xe xoff) ?_
  refine JO.py (Py.load scal2 xe xpick xrow) ?_
  first | refine oD (Py.leq xe ev_const) ?_ | refine oU (Py.leq xe ev_const) ?_ | refine JO.py (Py.leq xe ev_const) ?_
  refine nC ?_
  refine cF ?_
  by_cases h : N < pl
  · skip
    obtain rfl : k = N := by omega
    refine JC.skip (JX.code (JC.seq (sR ?_)))
    refine oM ?_
    refine JO.py (Py.lenS Tryz.underlying22 xe) ?_
    refine oM ?_
    refine JO.py (Py.nil xe) ?_
    refine JO.py (Py.fld fld282_1 xe xoff) ?_
    refine JO.py (Py.load scal2 xe xpick xrow) ?_
    first | refine oD (Py.gtr xe xe) ?_ | refine oU (Py.gtr xe xe) ?_ | refine JO.py (Py.gtr xe xe) ?_
    refine nC ?_
    refine cT ?_
    refine JC.region ?_
    refine oM ?_
    refine oM ?_
    refine JO.py (Py.nil xe) ?_
    refine JO.py (Py.fld fld282_1 xe xoff) ?_
    refine JO.py (Py.load scal2 xe xpick xrow) ?_
    refine JO.py (Py.slc (l := 0) (h := k) (p := po) (q := k) (c := pc) Tryz.underlying22 siz5 xe (Bd.some ev_const (by omega)) (Bd.some xe (by omega)) (by omega) (by omega) (by omega) (by omega) (by omega) (by omega)) ?_
    refine oA ?_
    refine nC (sR ?_)
    refine oM ?_
    refine JO.py (Py.nil xe) ?_
    refine JO.py (Py.fld fld282_0 xe xoff) ?_
    refine JO.py (Py.load scal113 xe xpick xrow) ?_
    refine oM ?_
    refine JO.invoke xe (Evs.cons xe Evs.nil) (hm) (zRead_con G Z hZ i pb po k pc k ps (by omega) (by omega) (by omega) (by omega)) xpkE ?_
    rintro _
    show JO _ _ _ _ _ _ _ ((31, _) :: _) _ (_ :: _ :: _ :: _)
    refine oM ?_
    refine JO.py (Py.extrI xe xix) ?_
    refine JO.py (Py.extrI xe xix) ?_
    refine oA ?_
    refine oA ?_
    refine nC (sR ?_)
    refine oM ?_
    refine JO.py (Py.nil xe) ?_
    refine JO.py (Py.fld fld282_1 xe xoff) ?_
    refine JO.py (Py.load scal2 xe xpick xrow) ?_
    refine oM ?_
    refine JO.py (Py.sub xe xe wI) ?_
    refine JO.py (Py.nil xe) ?_
    refine JO.py (Py.fld fld282_1 xe xoff) ?_
    refine JO.store siz2 xe xe (by first | rfl | assumption) xpick xsize xnorm ?_
    refine nC (JC.ret ?_)
    refine JX.end2 (Or.inl rfl) (()) Tryz.results246 (tup2 ((xe).trans (by first | exact xval | (dsimp only; exact xval))) ((xe).trans (by first | exact xval | (dsimp only; exact xval)))) xpkE
  · skip
    obtain rfl : k = pl := by omega
    refine JC.skip (JX.code (JC.seq (sR ?_)))
    refine oM ?_
    refine JO.py (Py.lenS Tryz.underlying22 xe) ?_
    refine oM ?_
    refine JO.py (Py.nil xe) ?_
    refine JO.py (Py.fld fld282_1 xe xoff) ?_
    refine JO.py (Py.load scal2 xe xpick xrow) ?_
    first | refine oD (Py.gtr xe xe) ?_ | refine oU (Py.gtr xe xe) ?_ | refine JO.py (Py.gtr xe xe) ?_
    refine nC ?_
    refine cF ?_
    refine JC.skip (JX.code (sR ?_))
    refine oM ?_
    refine JO.py (Py.nil xe) ?_
    refine JO.py (Py.fld fld282_0 xe xoff) ?_
    refine JO.py (Py.load scal113 xe xpick xrow) ?_
    refine oM ?_
    refine JO.invoke xe (Evs.cons xe Evs.nil) (hm) (zRead_con G Z hZ i pb po k pc k ps (by omega) (by omega) (by omega) (by omega)) xpkE ?_
    rintro _
    show JO _ _ _ _ _ _ _ ((31, _) :: _) _ (_ :: _ :: _ :: _)
    refine oM ?_
    refine JO.py (Py.extrI xe xix) ?_
    refine JO.py (Py.extrI xe xix) ?_
    refine oA ?_
    refine oA ?_
    refine nC (sR ?_)
    refine oM ?_
    refine JO.py (Py.nil xe) ?_
    refine JO.py (Py.fld fld282_1 xe xoff) ?_
    refine JO.py (Py.load scal2 xe xpick xrow) ?_
    refine oM ?_
    refine JO.py (Py.sub xe xe wI) ?_
    refine JO.py (Py.nil xe) ?_
    refine JO.py (Py.fld fld282_1 xe xoff) ?_
    refine JO.store siz2 xe xe (by first | rfl | assumption) xpick xsize xnorm ?_
    refine nC (JC.ret ?_)
    refine JX.end2 (Or.inl rfl) (()) Tryz.results246 (tup2 ((xe).trans (by first | exact xval | (dsimp only; exact xval))) ((xe).trans (by first | exact xval | (dsimp only; exact xval)))) xpkE
end Go.Proofs.YtfpepghmbeoanaaGreatDoor
end
