/-
The coder of the reference: LZMA.
FnLzma: the law's walk.
-/
import Derived.Test.YtfpepghmbeoanaaGreatDoorQ04
import Derived.Test.YtfpepghmbeoanaaGreatDoorQ12
set_option linter.unusedSimpArgs false
set_option linter.unusedVariables false
section
open Go Go.RowKit
namespace Go.Proofs.YtfpepghmbeoanaaGreatDoor
open Lz
abbrev Tab.none : Tab := ⟨[], fun _ => 0, fun _ => 0⟩
theorem chances_none : Chances Tab.none M0 fun _ => .none := trivial

/-- Rows for distances of which those below i are new. -/
def specP (T : Tab) (i : Nat) : Array Value := ((List.range 14).map fun j => if 4 ≤ j ∧ j < i then T.sl (7 + j) else Value.slice none 0 0).toArray
theorem specP_size (T : Tab) (i : Nat) : (specP T i).size = 14 := by simp [specP]
theorem specP_4 (T : Tab) : specP T 4 = (List.replicate 14 (Value.slice none 0 0)).toArray := by
  unfold specP; congr 1
theorem specP_14 (T : Tab) : specP T 14 = specCells T := by
  unfold specP specCells; congr 1
structure Sp (T : Tab) (i : Nat) (T' : Tab) : Prop where
  ok : T'.Ok
  ext : Ext T T'
  ids : ∀ id ∈ T'.ids, id ∈ T.ids ∨ (11 ≤ id ∧ id < 7 + i)
  p : ∀ j, 4 ≤ j → j < i → 7 + j ∈ T'.ids ∧ T'.len (7 + j) = 2 ^ (j / 2 - 1)
theorem Sp.fresh {T T' : Tab} {i : Nat} (h : Sp T i T') (hi : 4 ≤ i) (hf : ∀ id ∈ T.ids, id < 11) : 7 + i ∉ T'.ids := fun hm => by
  rcases h.ids _ hm with h | h
  · have := hf _ h; omega
  · omega
theorem Sp.step {T T' : Tab} {i : Nat} (h : Sp T i T') (hi : 4 ≤ i) (hi2 : i < 14) (hf : ∀ id ∈ T.ids, id < 11) (b : Nat) :
    Sp T (i + 1) (T'.add (7 + i) b (2 ^ (i / 2 - 1))) ∧ (specP T' i).setIfInBounds i (.slice (some ⟨b, 0, none⟩) (2 ^ (i / 2 - 1)) (2 ^ (i / 2 - 1))) = specP (T'.add (7 + i) b (2 ^ (i / 2 - 1))) (i + 1) := by
  have n1 := h.fresh hi hf
  have x : Ext T' (T'.add (7 + i) b (2 ^ (i / 2 - 1))) := Ext.add n1
  refine ⟨⟨h.ok.add n1, h.ext.trans x, fun id hid => ?_, fun j hj hj2 => ?_⟩, ?_⟩
  · rcases List.mem_cons.1 hid with rfl | hm
    · right; omega
    · rcases h.ids _ hm with h | h
      · exact .inl h
      · right; omega
  · by_cases hji : j = i
    · subst hji; exact ⟨Tab.add_mem, Tab.add_len⟩
    · have := h.p j hj (by omega)
      exact ⟨x.ids _ this.1, (x.len _ this.1).trans this.2⟩
  · unfold specP
    rw [List.setIfInBounds_toArray, map_set]
    congr 1
    apply List.map_congr_left
    intro j _
    by_cases hji : j = i
    · subst hji
      rw [if_pos rfl, if_pos (by omega), Tab.add_sl]
    · rw [if_neg hji]
      by_cases hj : 4 ≤ j ∧ j < i
      · rw [if_pos hj, if_pos (by omega), x.sl (h.p j hj.1 hj.2).1]
      · rw [if_neg hj, if_neg (by omega)]
/-- The rows that are made first. -/
structure Base11 (T : Tab) (m0 m1 m2 m3 m4 m5 m6 m7 m8 m9 m10 : Nat) : Prop where
  ok : T.Ok
  ids : ∀ id, id ∈ T.ids ↔ id < 11
  b0 : T.blk 0 = m0 ∧ T.len 0 = 192
  b1 : T.blk 1 = m1 ∧ T.len 1 = 12
  b2 : T.blk 2 = m2 ∧ T.len 2 = 12
  b3 : T.blk 3 = m3 ∧ T.len 3 = 12
  b4 : T.blk 4 = m4 ∧ T.len 4 = 12
  b5 : T.blk 5 = m5 ∧ T.len 5 = 192
  b6 : T.blk 6 = m6 ∧ T.len 6 = 64
  b7 : T.blk 7 = m7 ∧ T.len 7 = 64
  b8 : T.blk 8 = m8 ∧ T.len 8 = 64
  b9 : T.blk 9 = m9 ∧ T.len 9 = 64
  b10 : T.blk 10 = m10 ∧ T.len 10 = 16
theorem JC.base {P : Program} {G : Gst} {Q : Exit → Act → World → Prop} {n' : Nat} {base : Nat → Value} {L : List (Nat × Value)} {D : List Deferred} {As r : List Asn} {x : Code} {m0 m1 m2 m3 m4 m5 m6 m7 m8 m9 m10 : Nat}
    (q : Picks [cel m10 61 (chs half 16), cel m9 61 (chs half 64), cel m8 61 (chs half 64), cel m7 61 (chs half 64), cel m6 61 (chs half 64), cel m5 61 (chs half 192), cel m4 61 (chs half 12), cel m3 61 (chs half 12), cel m2 61 (chs half 12), cel m1 61 (chs half 12), cel m0 61 (chs half 192)] As r) (k : ∀ T, Base11 T m0 m1 m2 m3 m4 m5 m6 m7 m8 m9 m10 → JC P G Q x n' base L D (Chances T M0 :: r)) : JC P G Q x n' base L D As := by
  refine ⟨fun w hw => ?_⟩
  have h := hw.picks q
  have h : Sat G w (_ :: _ :: _ :: _ :: _ :: _ :: _ :: _ :: _ :: _ :: _ :: Chances Tab.none M0 :: r) := h.of fun hs => by
    have e : ∀ (l : List Asn) (h : Hp), stars (l ++ r) h → stars (l ++ (Chances Tab.none M0 :: r)) h := fun l h hs => by
      obtain ⟨h1, h2, hd, e, ha, hb⟩ := stars_append.1 hs
      exact stars_append.2 ⟨h1, h2, hd, e, ha, fun _ => none, h2, fun _ => .inl rfl, by funext k; simp [Hp.un], trivial, hb⟩
    exact e [_, _, _, _, _, _, _, _, _, _, _] _ hs
  have step : ∀ {T : Tab} {id b n : Nat} {l : List Asn} {r' : List Asn}, id ∉ T.ids → Sat G w (l ++ (cel b 61 (chs half n) :: Chances T M0 :: r')) → Sat G w (l ++ (Chances (T.add id b n) M0 :: r')) := by
    intro T id b n l r' hid hs
    refine hs.of fun hh => ?_
    obtain ⟨h1, h2, hd, e, ha, hb⟩ := stars_append.1 hh
    refine stars_append.2 ⟨h1, h2, hd, e, ha, ?_⟩
    refine stars_flat.2 ?_
    have e : (T.add id b n).ids.map ((T.add id b n).row M0) = cel b 61 (chs half n) :: T.ids.map (T.row M0) := by
      show (T.add id b n).row M0 id :: T.ids.map ((T.add id b n).row M0) = _
      rw [Tab.add_row]
      congr 1
      apply List.map_congr_left
      intro j hj
      have : j ≠ id := fun e => hid (e ▸ hj)
      simp [Tab.row, Tab.add, this]
    rw [e]
    exact stars_tail (fun h hh => stars_flat.1 hh) hb
  have h := step (l := [_, _, _, _, _, _, _, _, _, _]) (id := 0) (b := m0) (n := 192) (by simp [Tab.add, Tab.none]) h
  have h := step (l := [_, _, _, _, _, _, _, _, _]) (id := 1) (b := m1) (n := 12) (by simp [Tab.add, Tab.none]) h
  have h := step (l := [_, _, _, _, _, _, _, _]) (id := 2) (b := m2) (n := 12) (by simp [Tab.add, Tab.none]) h
  have h := step (l := [_, _, _, _, _, _, _]) (id := 3) (b := m3) (n := 12) (by simp [Tab.add, Tab.none]) h
  have h := step (l := [_, _, _, _, _, _]) (id := 4) (b := m4) (n := 12) (by simp [Tab.add, Tab.none]) h
  have h := step (l := [_, _, _, _, _]) (id := 5) (b := m5) (n := 192) (by simp [Tab.add, Tab.none]) h
  have h := step (l := [_, _, _, _]) (id := 6) (b := m6) (n := 64) (by simp [Tab.add, Tab.none]) h
  have h := step (l := [_, _, _]) (id := 7) (b := m7) (n := 64) (by simp [Tab.add, Tab.none]) h
  have h := step (l := [_, _]) (id := 8) (b := m8) (n := 64) (by simp [Tab.add, Tab.none]) h
  have h := step (l := [_]) (id := 9) (b := m9) (n := 64) (by simp [Tab.add, Tab.none]) h
  have h := step (l := []) (id := 10) (b := m10) (n := 16) (by simp [Tab.add, Tab.none]) h
  refine (k (((((((((((Tab.none.add 0 m0 192).add 1 m1 12).add 2 m2 12).add 3 m3 12).add 4 m4 12).add 5 m5 192).add 6 m6 64).add 7 m7 64).add 8 m8 64).add 9 m9 64).add 10 m10 16) ⟨⟨by simp [Tab.add, Tab.none]⟩, fun id => ?_, by simp [Tab.add], by simp [Tab.add], by simp [Tab.add], by simp [Tab.add], by simp [Tab.add], by simp [Tab.add], by simp [Tab.add], by simp [Tab.add], by simp [Tab.add], by simp [Tab.add], by simp [Tab.add]⟩).run w h
  simp [Tab.add, Tab.none]; omega

theorem JC.newMapI {P : Program} {G : Gst} {Q : Exit → Act → World → Prop} {n' : Nat} {base : Nat → Value} {L : List (Nat × Value)} {D : List Deferred} {As r : List Asn} {x : Code} {b : Nat} (X : Value → Prop) (q : Pick (blk b (.map #[] 0)) As r)
    (k : JC P G Q x n' base L D (MapI b X :: r)) : JC P G Q x n' base L D As := ⟨fun w hw => k.run w (Sat.toMapI (by simp) (hw.pick q))⟩
theorem row_nil : Row 5 (.slice none 0 0) (u8s []) fun _ => .none := Or.inl ⟨rfl, rfl⟩
theorem and_mask {i p : Nat} {x : Int} (hx : x = (2 ^ p : Nat)) : ((i : Int).toNat &&& (x - 1).toNat) = i % 2 ^ p := by
  have hp : 0 < 2 ^ p := Nat.pow_pos (by decide)
  rw [show (x - 1).toNat = 2 ^ p - 1 by omega, Int.toNat_natCast, Nat.and_two_pow_sub_one_eq_mod]
theorem shift_keeps {E : Enc} (hh : 1 ≤ E.held) (hc : E.cache < 256) : 1 ≤ E.shift.held ∧ E.shift.cache < 256 ∧ E.shift.low < 8589934592 ∧ E.shift.cnt = E.cnt + 1 := by
  have hl := Enc.shift_low E
  unfold Enc.shift at *
  unfold Enc.cnt
  split <;> simp <;> omega
/-- k shifts. -/
def shifts : Nat → Enc → Enc
  | 0, E => E
  | k + 1, E => shifts k E.shift
theorem shifts_5 (E : Enc) : shifts 5 E = E.flush := rfl
/-- All rows. -/
structure Rows (T : Tab) (c : Cfg) : Prop where
  ok : T.Ok
  row : ∀ i n, (i, n) ∈ [(0, 192), (1, 12), (2, 12), (3, 12), (4, 12), (5, 192), (6, 64), (7, 64), (8, 64), (9, 64), (10, 16)] → i ∈ T.ids ∧ T.len i = n
  dist : ∀ i, i < 4 → DistOk T (6 + i)
  lit : 21 ∈ T.ids ∧ T.len 21 = 768 * 2 ^ (c.lc + c.lp)
  mat : matI.Ok T
  rep : repI.Ok T

/-- The best of the last distances. -/
def BestOk (bs : List Nat) (S : LzS) (n k : Nat) : Prop := n = 0 ∨ (2 ≤ n ∧ k < 4 ∧ EqR bs S.i (S.rk k + 1) n)
theorem BestOk.le {bs : List Nat} {S : LzS} {n k : Nat} (h : BestOk bs S n k) : n ≤ 273 := by
  rcases h with h | h
  · omega
  · exact h.2.2.le
theorem rk_get (S : LzS) {k : Nat} (h : k < 4) : (#[.int .i64 S.r0, .int .i64 S.r1, .int .i64 S.r2, .int .i64 S.r3] : Array Value)[k]? = some (.int .i64 (S.rk k)) := by
  have : k = 0 ∨ k = 1 ∨ k = 2 ∨ k = 3 := by omega
  rcases this with rfl | rfl | rfl | rfl <;> rfl
/-- What its frame holds. -/
abbrev lzL (bb ob bl bc g b16 b17 lm lr b24 b75 : Nat) (T : Tab) (c : Cfg) (nl st i : Nat) : List (Nat × Value) :=
  [(0, .slice (some ⟨bb, ob, none⟩) bl bc), (1, .int .i64 c.lc), (2, .int .i64 c.lp), (3, .int .i64 c.pb), (9, .pointer (some ⟨g, 0, none⟩)), (10, .slice (some ⟨T.blk 0, 0, none⟩) 192 192), (11, .slice (some ⟨T.blk 1, 0, none⟩) 12 12), (12, .slice (some ⟨T.blk 2, 0, none⟩) 12 12), (13, .slice (some ⟨T.blk 3, 0, none⟩) 12 12), (14, .slice (some ⟨T.blk 4, 0, none⟩) 12 12), (15, .slice (some ⟨T.blk 5, 0, none⟩) 192 192), (16, .pointer (some ⟨b16, 0, none⟩)), (17, .pointer (some ⟨b17, 0, none⟩)), (18, T.sl 10), (20, .slice (some ⟨T.blk 21, 0, none⟩) nl nl), (21, .pointer (some ⟨lm, 0, none⟩)), (22, .pointer (some ⟨lr, 0, none⟩)), (23, .int .i64 st), (24, .pointer (some ⟨b24, 0, none⟩)), (25, .map (some b75)), (26, .int .i64 i)]
/-- What its memory holds. -/
abbrev lzA (g b16 b17 lm lr b24 b75 : Nat) (T : Tab) (r0 r1 r2 r3 i : Nat) (E : Enc) (M : PM) (B F : Asn) : List Asn :=
  [CoderA g E, Chances T M, cel b16 50 #[T.sl 6, T.sl 7, T.sl 8, T.sl 9], cel b17 51 (specCells T), cel lm 75 (lenCells T matI), cel lr 75 (lenCells T repI), cel b24 54 #[.int .i64 r0, .int .i64 r1, .int .i64 r2, .int .i64 r3], MapI b75 (fun v => ∃ a : Nat, v = .int .i64 a ∧ a < i), B, F]

/-- How many bytes a symbol tells. -/
def Sym.n : Sym → Nat
  | .lit => 1
  | .rep _ n => n
  | .mat _ n => n
/-- Behind the symbol, j bytes on. -/
def LzS.at (S : LzS) (y : Sym) (j : Nat) : LzS := { S.next y with i := S.i + j }
theorem LzS.at_n (S : LzS) (y : Sym) : S.at y y.n = S.next y := by cases y <;> rfl
theorem Valid.n {b : List Nat} {S : LzS} {y : Sym} (h : Valid b S y) : 1 ≤ y.n ∧ y.n ≤ 273 := by
  cases y with
  | lit => exact ⟨Nat.le_refl _, by decide⟩
  | rep k n => exact ⟨by have := h.2.1; show 1 ≤ n; omega, h.2.2.le⟩
  | mat d n => exact ⟨by have := h.1; show 1 ≤ n; omega, h.2.le⟩
theorem afterN_con (G : Gst) (st lo hi : Nat) : Con Tryz.prog G 25 #[.int .i64 (st : Int), .int .i64 (lo : Int), .int .i64 (hi : Int)] [] (fun _ : Unit => .int .i64 (matSt st lo hi : Nat)) (fun _ => []) := by
  have h := after_con G st lo hi
  have e : (if (st : Int) < 7 then (lo : Int) else hi) = ((matSt st lo hi : Nat) : Int) := by unfold matSt; split <;> split <;> omega
  rw [e] at h; exact h
/-- The last distances while the k-th comes to the front: those behind i have moved. -/
def rotC (S : LzS) (k i : Nat) : Array Value := ((List.range 4).map fun j => Value.int .i64 ((if i < j ∧ j ≤ k then S.rk (j - 1) else S.rk j : Nat) : Int)).toArray
theorem rotC_start (S : LzS) (k : Nat) : rotC S k k = #[.int .i64 S.r0, .int .i64 S.r1, .int .i64 S.r2, .int .i64 S.r3] := by
  unfold rotC
  have h : ∀ j : Nat, ¬ (k < j ∧ j ≤ k) := fun j h => by omega
  simp only [if_neg (h _)]
  rfl
theorem rotC_get (S : LzS) {k i j : Nat} (hi : j ≤ i) (hj : j < 4) : (rotC S k i)[j]? = some (.int .i64 (S.rk j)) := by
  have h : ¬ (i < j ∧ j ≤ k) := fun h => by omega
  simp [rotC, hj, h]
theorem rotC_size (S : LzS) (k i : Nat) : (rotC S k i).size = 4 := by simp [rotC]
theorem rotC_step (S : LzS) {k i : Nat} (hi : i < k) : (rotC S k (i + 1)).setIfInBounds (i + 1) (.int .i64 (S.rk i)) = rotC S k i := by
  unfold rotC
  rw [List.setIfInBounds_toArray, map_set]
  congr 1
  apply List.map_congr_left
  intro j _
  by_cases hj : j = i + 1
  · subst hj; rw [if_pos rfl, if_pos (by omega)]; rfl
  · rw [if_neg hj]
    by_cases h2 : i < j ∧ j ≤ k
    · rw [if_pos h2, if_pos (by omega)]
    · rw [if_neg h2, if_neg (by omega)]
theorem rotC_end (S : LzS) {k n : Nat} (hk : k < 4) : (rotC S k 0).setIfInBounds 0 (.int .i64 (S.rk k)) = #[.int .i64 (S.next (.rep k n)).r0, .int .i64 (S.next (.rep k n)).r1, .int .i64 (S.next (.rep k n)).r2, .int .i64 (S.next (.rep k n)).r3] := by
  have : k = 0 ∨ k = 1 ∨ k = 2 ∨ k = 3 := by omega
  rcases this with rfl | rfl | rfl | rfl <;> rfl
theorem slots_get (T : Tab) {k : Nat} (h : k < 4) : (#[T.sl 6, T.sl 7, T.sl 8, T.sl 9] : Array Value)[k]? = some (T.sl (6 + k)) := by
  have : k = 0 ∨ k = 1 ∨ k = 2 ∨ k = 3 := by omega
  rcases this with rfl | rfl | rfl | rfl <;> rfl
theorem JC.mapMono {P : Program} {G : Gst} {Q : Exit → Act → World → Prop} {n' : Nat} {base : Nat → Value} {L : List (Nat × Value)} {D : List Deferred} {As r : List Asn} {x : Code} {b : Nat} (X Y : Value → Prop) (hXY : ∀ v, X v → Y v) (q : Pick (MapI b X) As r)
    (k : JC P G Q x n' base L D (MapI b Y :: r)) : JC P G Q x n' base L D As :=
  ⟨fun w hw => k.run w ((hw.pick q).of fun hs => by
    obtain ⟨h1, h2, hd, e, ha, hb⟩ := hs
    exact ⟨h1, h2, hd, e, MapI.mono hXY ha, hb⟩)⟩
/-- A short name for what the coder and the chances are. -/
theorem JC.ren {P : Program} {G : Gst} {Q : Exit → Act → World → Prop} {n' : Nat} {base : Nat → Value} {L : List (Nat × Value)} {D : List Deferred} {As r r' : List Asn} {x : Code} {g : Nat} {T : Tab} {E : Enc} {M : PM} (q1 : Pick (CoderA g E) As r) (q2 : Pick (Chances T M) r r')
    (k : ∀ M2 E2, M = M2 → E = E2 → JC P G Q x n' base L D (CoderA g E2 :: Chances T M2 :: r')) : JC P G Q x n' base L D As :=
  ⟨fun w hw => (k M E rfl rfl).run w (hw.of fun hs => stars_tail (fun _ hh => q2.to hh) (q1.to hs))⟩
theorem JO.ren {P : Program} {G : Gst} {ops : Array Oper} {Q : Exit → Act → World → Prop} {n' : Nat} {base : Nat → Value} {L : List (Nat × Value)} {D : List Deferred} {As r r' : List Asn} {x : List Oper} {g : Nat} {T : Tab} {E : Enc} {M : PM} (q1 : Pick (CoderA g E) As r) (q2 : Pick (Chances T M) r r')
    (k : ∀ M2 E2, M = M2 → E = E2 → JO P G ops Q x n' base L D (CoderA g E2 :: Chances T M2 :: r')) : JO P G ops Q x n' base L D As :=
  ⟨fun w hw => (k M E rfl rfl).run w (hw.of fun hs => stars_tail (fun _ hh => q2.to hh) (q1.to hs))⟩
/-- The row of a byte's chances. -/
theorem litO_le {c : Cfg} {i bef : Nat} (hb : bef < 256) (hl : c.lc ≤ 8) : i % 2 ^ c.lp * 2 ^ c.lc + bef / 2 ^ (8 - c.lc) < 2 ^ (c.lc + c.lp) := by
  have h1 : i % 2 ^ c.lp < 2 ^ c.lp := Nat.mod_lt _ (Nat.pow_pos (by decide))
  have h2 : bef / 2 ^ (8 - c.lc) < 2 ^ c.lc := by
    rw [Nat.div_lt_iff_lt_mul (Nat.pow_pos (by decide)), ← Nat.pow_add, show c.lc + (8 - c.lc) = 8 by omega]; exact hb
  have h3 : (i % 2 ^ c.lp + 1) * 2 ^ c.lc ≤ 2 ^ c.lp * 2 ^ c.lc := Nat.mul_le_mul_right _ h1
  rw [Nat.add_mul, Nat.one_mul] at h3
  rw [Nat.pow_add, Nat.mul_comm (2 ^ c.lc)]
  omega

set_option maxRecDepth 100000 in
set_option maxHeartbeats 8000000 in
theorem lzma_con (G : Gst) (bb ob bl bc : Nat) (cs : Array Value) (Tb : TypeId) (fr : Nat × Nat) (bs : List Nat) (hb : RdOk cs ob bs) (hbl : bs.length = bl) (hbl2 : bl ≤ 100000) (c : Cfg) (hc : c.Ok) :
    Con Tryz.prog G 9 #[.slice (some ⟨bb, ob, none⟩) bl bc, .int .i64 c.lc, .int .i64 c.lp, .int .i64 c.pb] [blk bb (.cells cs Tb fr)]
      (fun i : {i : Value × List Sym // ValidAll bs LzS.start i.2 ∧ (LzS.start.run i.2).i = bl} => i.1.1) (fun i => [Row 5 i.1.1 (u8s (Enc.evs M0 Enc.start (symsEv c bs LzS.start i.1.2)).flush.out), blk bb (.cells cs Tb fr)]) := by
  obtain ⟨nl, hnl⟩ : ∃ x, 768 * 2 ^ (c.lc + c.lp) = x := ⟨_, rfl⟩
  refine Con.intro Tryz.func9 rfl (by kernel_rfl) Tryz.ntmps9 (Nat.le_of_ble_eq_true rfl) ?_
  intro F
  show JC _ _ _ _ _ _ [(0, _), (1, _), (2, _), (3, _)] _ [_, _]
  refine sR ?_
  refine oC ?_
  refine nC (sR ?_)
  refine JO.py (Py.build bld47 (Pts.cons ev_const (Pts.cons ev_const Pts.nil)) xfl) ?_
  refine JO.boxA xe ?_; intro b42
  refine oA ?_
  refine nC (sR ?_)
  refine JO.call (Evs.cons ev_const Evs.nil) (halves_con G 192 (by omega) rfl) xpkE ?_
  rintro m0
  show JO _ _ _ _ _ _ _ ((43, _) :: _) _ (_ :: _ :: _)
  refine JO.call (Evs.cons ev_const Evs.nil) (halves_con G 12 (by omega) rfl) xpkE ?_
  rintro m1
  show JO _ _ _ _ _ _ _ ((44, _) :: _) _ (_ :: _ :: _)
  refine JO.call (Evs.cons ev_const Evs.nil) (halves_con G 12 (by omega) rfl) xpkE ?_
  rintro m2
  show JO _ _ _ _ _ _ _ ((45, _) :: _) _ (_ :: _ :: _)
  refine JO.call (Evs.cons ev_const Evs.nil) (halves_con G 12 (by omega) rfl) xpkE ?_
  rintro m3
  show JO _ _ _ _ _ _ _ ((46, _) :: _) _ (_ :: _ :: _)
  refine JO.call (Evs.cons ev_const Evs.nil) (halves_con G 12 (by omega) rfl) xpkE ?_
  rintro m4
  show JO _ _ _ _ _ _ _ ((47, _) :: _) _ (_ :: _ :: _)
  refine JO.call (Evs.cons ev_const Evs.nil) (halves_con G 192 (by omega) rfl) xpkE ?_
  rintro m5
  show JO _ _ _ _ _ _ _ ((48, _) :: _) _ (_ :: _ :: _)
  refine oA ?_
  refine oA ?_
  refine oA ?_
  refine oA ?_
  refine oA ?_
  refine oA ?_
  refine nC (sR ?_)
  refine JO.call (Evs.cons ev_const Evs.nil) (halves_con G 64 (by omega) rfl) xpkE ?_
  rintro m6
  show JO _ _ _ _ _ _ _ ((49, _) :: _) _ (_ :: _ :: _)
  refine JO.call (Evs.cons ev_const Evs.nil) (halves_con G 64 (by omega) rfl) xpkE ?_
  rintro m7
  show JO _ _ _ _ _ _ _ ((50, _) :: _) _ (_ :: _ :: _)
  refine JO.call (Evs.cons ev_const Evs.nil) (halves_con G 64 (by omega) rfl) xpkE ?_
  rintro m8
  show JO _ _ _ _ _ _ _ ((51, _) :: _) _ (_ :: _ :: _)
  refine JO.call (Evs.cons ev_const Evs.nil) (halves_con G 64 (by omega) rfl) xpkE ?_
  rintro m9
  show JO _ _ _ _ _ _ _ ((52, _) :: _) _ (_ :: _ :: _)
  refine JO.py (Py.build bld50 (Pts.cons xe (Pts.cons xe (Pts.cons xe (Pts.cons xe Pts.nil)))) xfl) ?_
  refine JO.allocA zer50 ?_; intro b16
  refine JO.storeW siz50 xe xe (by first | rfl | (simp; done) | assumption | fail) (by first | (simp [Value.oneCell']; done) | assumption | fail) xpick (by first | rfl | (simp; done) | assumption | fail) ?_
  refine nC (sR ?_)
  refine JO.py (Py.build bld51 Pts.nil xfl) ?_
  refine JO.call (Evs.cons ev_const Evs.nil) (halves_con G 16 (by omega) rfl) xpkE ?_
  rintro m10
  show JO _ _ _ _ _ _ _ ((55, _) :: _) _ (_ :: _ :: _)
  refine JO.allocA zer51 ?_; intro b17
  refine JO.storeW siz51 xe xe (by first | rfl | (simp; done) | assumption | fail) (by first | (simp [Value.oneCell']; done) | assumption | fail) xpick (by first | rfl | (simp; done) | assumption | fail) ?_
  refine oA ?_
  refine nC (JC.seq (sR ?_))
  refine oC ?_
  refine nC (JC.block ?_)
  refine JC.base xpkE ?_
  intro T1 hT1
  have hf11 : ∀ id ∈ T1.ids, id < 11 := fun id h => (hT1.ids id).1 h
  refine JC.as (A := cel b17 51 _) (A' := cel b17 51 (specP T1 4)) xpick (cel_eq (by exact (specP_4 T1).symm)) ?_
  have hc1 := hc.l
  have hc2 := hc.p
  refine JC.loop (ι := Nat × Tab) (fun i => 4 ≤ i.1 ∧ i.1 ≤ 14 ∧ Sp T1 i.1 i.2) (fun i => [(0, .slice (some ⟨bb, ob, none⟩) bl bc), (1, .int .i64 c.lc), (2, .int .i64 c.lp), (3, .int .i64 c.pb), (9, .pointer (some ⟨b42, 0, none⟩)), (10, .slice (some ⟨m0, 0, none⟩) 192 192), (11, .slice (some ⟨m1, 0, none⟩) 12 12), (12, .slice (some ⟨m2, 0, none⟩) 12 12), (13, .slice (some ⟨m3, 0, none⟩) 12 12), (14, .slice (some ⟨m4, 0, none⟩) 12 12), (15, .slice (some ⟨m5, 0, none⟩) 192 192), (16, .pointer (some ⟨b16, 0, none⟩)), (17, .pointer (some ⟨b17, 0, none⟩)), (18, .slice (some ⟨m10, 0, none⟩) 16 16), (19, .int .i64 i.1)])
    (fun i => [Chances i.2 M0, cel b17 51 (specP i.2 i.1), cel b16 50 #[.slice (some ⟨m6, 0, none⟩) 64 64, .slice (some ⟨m7, 0, none⟩) 64 64, .slice (some ⟨m8, 0, none⟩) 64 64, .slice (some ⟨m9, 0, none⟩) 64 64], cel b42 47 #[.int .u64 0, .int .u32 4294967295, .int .u8 0, .int .i64 1, .slice none 0 0], blk bb (.cells cs Tb fr), F]) (fun i => 14 - i.1) (4, T1) ⟨Nat.le_refl _, Nat.le_of_ble_eq_true rfl, ⟨hT1.ok, Ext.refl _, fun id h => .inl h, fun j h1 h2 => absurd h2 (by omega)⟩⟩ xag xpkE ?_
  rintro ⟨i, T2⟩ base' ⟨hi, hi2, hn⟩
  dsimp only at hi hi2 hn ⊢
  by_cases h : i < 14
  · skip
    have hsz := specP_size T2 i
    have hpw : 2 ^ (i / 2 - 1) ≤ 2 ^ 6 := Nat.pow_le_pow_right (by decide) (by omega)
    have hpi : (1 : Int) * 2 ^ (i / 2 - 1) = ((2 ^ (i / 2 - 1) : Nat) : Int) := by push_cast; simp
    have hp0 := Int.natCast_nonneg (2 ^ (i / 2 - 1))
    refine JC.seq (sR ?_)
    refine oM ?_
    first | refine oD (Py.lss xe ev_const) ?_ | refine oU (Py.lss xe ev_const) ?_ | refine JO.py (Py.lss xe ev_const) ?_
    refine nC ?_
    refine cT ?_
    refine JC.skip (JX.code (JC.seq (JC.block (JC.region ?_))))
    refine oM ?_
    refine oM ?_
    refine JO.py (Py.quo xe ev_const (by omega) (by omega) wI) ?_
    refine JO.py (Py.sub xe ev_const wI) ?_
    refine JO.py (Py.shlN (i / 2 - 1) (c := ((2 ^ (i / 2 - 1) : Nat) : Int)) ev_const xe (by omega) (by simp only [IntKind.bits]; omega) (by rw [hpi]; exact w_i64 (by omega))) ?_
    refine JO.call (Evs.cons xe Evs.nil) (halves_con G (2 ^ (i / 2 - 1)) (by omega) rfl) xpkE ?_
    rintro b3
    show JO _ _ _ _ _ _ _ ((65, _) :: _) _ (_ :: _ :: _)
    refine JO.py (Py.idxA Tryz.underlying51 siz48 xe xe (by omega) xidx xmult) ?_
    refine JO.store siz48 xe xe (by first | rfl | assumption) xpick xsize xnorm ?_
    refine JO.nil (JX.blockN (JX.code (JC.region ?_)))
    refine oM ?_
    refine JO.py (Py.add xe ev_const wI) ?_
    refine oA ?_
    refine JO.nil ?_
    obtain ⟨st1, st2⟩ := hn.step hi h hf11 b3
    have n1 := hn.fresh hi hf11
    refine JX.grow (M := M0) (f := half) (b := b3) (7 + i) xpick xpick rfl n1 ?_
    refine JX.as (A := cel b17 51 _) (A' := cel b17 51 (specP (T2.add (7 + i) b3 (2 ^ (i / 2 - 1))) (i + 1))) xpick (cel_eq st2) ?_
    refine JX.loop (i + 1, T2.add (7 + i) b3 (2 ^ (i / 2 - 1))) ⟨by dsimp only; omega, by dsimp only; omega, st1⟩ (by dsimp only; omega) xag xpkE
  · skip
    obtain rfl : i = 14 := by omega
    refine JC.seq (sR ?_)
    refine oM ?_
    first | refine oD (Py.lss xe ev_const) ?_ | refine oU (Py.lss xe ev_const) ?_ | refine JO.py (Py.lss xe ev_const) ?_
    refine nC ?_
    refine cF ?_
    refine JC.exit (JX.exit (JX.exit (JX.blockE (JX.code (sR ?_)))))
    refine oM ?_
    refine oM ?_
    refine JO.py (Py.add xe xe wI) ?_
    refine JO.as (A := cel b17 51 _) (A' := cel b17 51 (specCells T2)) xpick (cel_eq (by exact specP_14 T2)) ?_
    have hll : 768 * 2 ^ (c.lc + c.lp) ≤ 768 * 2 ^ 4 := Nat.mul_le_mul_left _ (Nat.pow_le_pow_right (by decide) (by omega))
    have hli : (768 : Int) * 2 ^ (c.lc + c.lp) = ((nl : Nat) : Int) := by rw [← hnl]; push_cast; rfl
    have hln := Int.natCast_nonneg nl
    rw [hnl] at hll
    refine JO.py (Py.shlN (c.lc + c.lp) (c := ((nl : Nat) : Int)) ev_const xe (by omega) (by simp only [IntKind.bits]; omega) (by rw [hli]; exact w_i64 (by omega))) ?_
    refine JO.call (Evs.cons xe Evs.nil) (halves_con G nl (by omega) rfl) xpkE ?_
    rintro bL
    show JO _ _ _ _ _ _ _ ((71, _) :: _) _ (_ :: _ :: _)
    refine oA ?_
    refine nC (sR ?_)
    have n21 : 21 ∉ T2.ids := fun hm => by
      rcases hn.ids _ hm with h | h
      · have := hf11 _ h; omega
      · omega
    refine JO.grow (T := T2) (M := M0) (f := half) (b := bL) 21 xpick xpick rfl n21 ?_
    have x3 : Ext T2 (T2.add 21 bL nl) := Ext.add n21
    have k3 : ∀ id ∈ (T2.add 21 bL nl).ids, id < 22 := fun id hm => by
      rcases List.mem_cons.1 hm with h | h
      · omega
      · rcases hn.ids _ h with h | h
        · have := hf11 _ h; omega
        · omega
    refine JO.call Evs.nil (newL_con G (T2.add 21 bL nl) matI (hn.ok.add n21) (fun id hm hh => by have := k3 id hm; unfold Lids.has matI at hh; dsimp only at hh; omega) (by decide)) xpkE ?_
    rintro ⟨⟨lm, T4⟩, h4⟩
    show JO _ _ _ _ _ _ _ ((72, _) :: _) _ (_ :: _ :: _ :: _)
    dsimp only at h4
    have k4 : ∀ id ∈ T4.ids, ¬ repI.has 16 id := fun id hm hh => by
      rcases h4.ids id hm with h | h
      · have := k3 id h; unfold Lids.has repI at hh; dsimp only at hh; omega
      · unfold Lids.has matI at h; unfold Lids.has repI at hh; dsimp only at h hh; omega
    refine JO.call Evs.nil (newL_con G T4 repI h4.ok k4 (by decide)) xpkE ?_
    rintro ⟨⟨lr, T5⟩, h5⟩
    show JO _ _ _ _ _ _ _ ((73, _) :: _) _ (_ :: _ :: _ :: _)
    dsimp only at h5
    have x5 : Ext T2 T5 := x3.trans (h4.ext.trans h5.ext)
    have x15 : Ext T1 T5 := hn.ext.trans x5
    have xs : specCells T2 = specCells T5 := by
      unfold specCells
      congr 1
      apply List.map_congr_left
      intro j hj
      have hj' : j < 14 := by simpa using hj
      by_cases h : j < 4
      · rw [if_pos h, if_pos h]
      · rw [if_neg h, if_neg h, x5.sl (hn.p j (by omega) hj').1]
    have xm : lenCells T4 matI = lenCells T5 matI := by
      have hc := h5.ext.sl h4.c.1
      have hh := h5.ext.sl h4.h.1
      unfold lenCells
      have hl : ((List.range 16).map fun i => T4.sl (matI.l + i)) = (List.range 16).map fun i => T5.sl (matI.l + i) := List.map_congr_left fun j hj => (h5.ext.sl (h4.l j (by simpa using hj)).1).symm
      have hm : ((List.range 16).map fun i => T4.sl (matI.m + i)) = (List.range 16).map fun i => T5.sl (matI.m + i) := List.map_congr_left fun j hj => (h5.ext.sl (h4.m j (by simpa using hj)).1).symm
      rw [hl, hm, hc, hh]
    have up : ∀ id n, id ∈ T1.ids ∧ T1.len id = n → id ∈ T5.ids ∧ T5.len id = n := fun id n h => ⟨x15.ids _ h.1, (x15.len _ h.1).trans h.2⟩
    have hR : Rows T5 c := by
      refine ⟨h5.ok, fun i n h => up i n ?_, fun i hi => ?_, ?_, ?_, h5.lids⟩
      · have hid := hT1.ids i
        simp only [List.mem_cons, Prod.mk.injEq, List.not_mem_nil, or_false] at h
        rcases h with ⟨rfl, rfl⟩ | ⟨rfl, rfl⟩ | ⟨rfl, rfl⟩ | ⟨rfl, rfl⟩ | ⟨rfl, rfl⟩ | ⟨rfl, rfl⟩ | ⟨rfl, rfl⟩ | ⟨rfl, rfl⟩ | ⟨rfl, rfl⟩ | ⟨rfl, rfl⟩ | ⟨rfl, rfl⟩
        · exact ⟨hid.2 (by decide), hT1.b0.2⟩
        · exact ⟨hid.2 (by decide), hT1.b1.2⟩
        · exact ⟨hid.2 (by decide), hT1.b2.2⟩
        · exact ⟨hid.2 (by decide), hT1.b3.2⟩
        · exact ⟨hid.2 (by decide), hT1.b4.2⟩
        · exact ⟨hid.2 (by decide), hT1.b5.2⟩
        · exact ⟨hid.2 (by decide), hT1.b6.2⟩
        · exact ⟨hid.2 (by decide), hT1.b7.2⟩
        · exact ⟨hid.2 (by decide), hT1.b8.2⟩
        · exact ⟨hid.2 (by decide), hT1.b9.2⟩
        · exact ⟨hid.2 (by decide), hT1.b10.2⟩
      · refine ⟨?_, fun j h1 h2 => ⟨x5.ids _ (hn.p j h1 h2).1, (x5.len _ (hn.p j h1 h2).1).trans (hn.p j h1 h2).2⟩, ?_⟩
        · have := (hT1.ids (6 + i)).2 (by omega)
          refine ⟨x15.ids _ this, (x15.len _ this).trans ?_⟩
          have hi' : i = 0 ∨ i = 1 ∨ i = 2 ∨ i = 3 := by omega
          rcases hi' with rfl | rfl | rfl | rfl
          · exact hT1.b6.2
          · exact hT1.b7.2
          · exact hT1.b8.2
          · exact hT1.b9.2
        · have := (hT1.ids 10).2 (by omega)
          exact ⟨x15.ids _ this, (x15.len _ this).trans hT1.b10.2⟩
      · have x6 := h4.ext.trans h5.ext
        exact ⟨x6.ids _ Tab.add_mem, (x6.len _ Tab.add_mem).trans (Tab.add_len.trans hnl.symm)⟩
      · have x6 := h5.ext
        exact ⟨⟨x6.ids _ h4.c.1, (x6.len _ h4.c.1).trans h4.c.2⟩, fun i hi => ⟨x6.ids _ (h4.l i hi).1, (x6.len _ (h4.l i hi).1).trans (h4.l i hi).2⟩, fun i hi => ⟨x6.ids _ (h4.m i hi).1, (x6.len _ (h4.m i hi).1).trans (h4.m i hi).2⟩, ⟨x6.ids _ h4.h.1, (x6.len _ h4.h.1).trans h4.h.2⟩⟩
    have e0 : T5.blk 0 = m0 := (x15.blk 0 ((hT1.ids 0).2 (by decide))).trans hT1.b0.1
    have e1 : T5.blk 1 = m1 := (x15.blk 1 ((hT1.ids 1).2 (by decide))).trans hT1.b1.1
    have e2 : T5.blk 2 = m2 := (x15.blk 2 ((hT1.ids 2).2 (by decide))).trans hT1.b2.1
    have e3 : T5.blk 3 = m3 := (x15.blk 3 ((hT1.ids 3).2 (by decide))).trans hT1.b3.1
    have e4 : T5.blk 4 = m4 := (x15.blk 4 ((hT1.ids 4).2 (by decide))).trans hT1.b4.1
    have e5 : T5.blk 5 = m5 := (x15.blk 5 ((hT1.ids 5).2 (by decide))).trans hT1.b5.1
    have e6 : T5.blk 6 = m6 := (x15.blk 6 ((hT1.ids 6).2 (by decide))).trans hT1.b6.1
    have e7 : T5.blk 7 = m7 := (x15.blk 7 ((hT1.ids 7).2 (by decide))).trans hT1.b7.1
    have e8 : T5.blk 8 = m8 := (x15.blk 8 ((hT1.ids 8).2 (by decide))).trans hT1.b8.1
    have e9 : T5.blk 9 = m9 := (x15.blk 9 ((hT1.ids 9).2 (by decide))).trans hT1.b9.1
    have e10 : T5.blk 10 = m10 := (x15.blk 10 ((hT1.ids 10).2 (by decide))).trans hT1.b10.1
    have e21 : T5.blk 21 = bL := ((h4.ext.trans h5.ext).blk 21 Tab.add_mem).trans (by simp [Tab.add])
    refine JO.as (A := cel b17 51 _) (A' := cel b17 51 (specCells T5)) xpick (cel_eq (by exact xs)) ?_
    refine JO.as (A := cel lm 75 _) (A' := cel lm 75 (lenCells T5 matI)) xpick (cel_eq (by exact xm)) ?_
    have f0 := (hR.row 0 192 (by simp)).2
    have f1 := (hR.row 1 12 (by simp)).2
    have f2 := (hR.row 2 12 (by simp)).2
    have f3 := (hR.row 3 12 (by simp)).2
    have f4 := (hR.row 4 12 (by simp)).2
    have f5 := (hR.row 5 192 (by simp)).2
    have f10 := (hR.row 10 16 (by simp)).2
    have s6 : Value.slice (some ⟨m6, 0, none⟩) 64 64 = T5.sl 6 := by unfold Tab.sl; rw [e6, (hR.row 6 64 (by simp)).2]
    have s7 : Value.slice (some ⟨m7, 0, none⟩) 64 64 = T5.sl 7 := by unfold Tab.sl; rw [e7, (hR.row 7 64 (by simp)).2]
    have s8 : Value.slice (some ⟨m8, 0, none⟩) 64 64 = T5.sl 8 := by unfold Tab.sl; rw [e8, (hR.row 8 64 (by simp)).2]
    have s9 : Value.slice (some ⟨m9, 0, none⟩) 64 64 = T5.sl 9 := by unfold Tab.sl; rw [e9, (hR.row 9 64 (by simp)).2]
    have s10 : Value.slice (some ⟨m10, 0, none⟩) 16 16 = T5.sl 10 := by unfold Tab.sl; rw [e10, f10]
    refine oA ?_
    refine oA ?_
    refine nC (sR ?_)
    refine JO.py (Py.build bld54 Pts.nil xfl) ?_
    refine JO.allocA zer54 ?_; intro b24
    refine oC ?_
    refine JO.storeW siz54 xe xe (by first | rfl | (simp; done) | assumption | fail) (by first | (simp [Value.oneCell']; done) | assumption | fail) xpick (by first | rfl | (simp; done) | assumption | fail) ?_
    refine nC (sR ?_)
    refine JO.mkmap ?_; intro b75
    refine oA ?_
    refine nC (JC.seq (sR ?_))
    refine oC ?_
    refine nC (JC.block ?_)
    subst e0 e1 e2 e3 e4 e5 e10 e21
    refine JC.free row_nil ?_
    refine JC.newMapI (fun v => ∃ a : Nat, v = .int .i64 a ∧ a < 0) xpick ?_
    refine JC.loop (ι := List Sym × LzS × PM × Enc) (fun x => ValidAll bs LzS.start x.1 ∧ x.2.1.Ok bl ∧ LzS.start.run x.1 = x.2.1 ∧ evsM M0 (symsEv c bs LzS.start x.1) = x.2.2.1 ∧ Enc.evs M0 Enc.start (symsEv c bs LzS.start x.1) = x.2.2.2 ∧ (symsEv c bs LzS.start x.1).length ≤ 60 * x.2.1.i)
      (fun x => lzL bb ob bl bc b42 b16 b17 lm lr b24 b75 T5 c nl x.2.1.st x.2.1.i)
      (fun x => lzA b42 b16 b17 lm lr b24 b75 T5 x.2.1.r0 x.2.1.r1 x.2.1.r2 x.2.1.r3 x.2.1.i x.2.2.2 x.2.2.1 (blk bb (.cells cs Tb fr)) F)
      (fun x => bl - x.2.1.i) ([], LzS.start, M0, Enc.start) ⟨trivial, LzS.start_ok bl, rfl, rfl, rfl, Nat.zero_le _⟩ xag (by simp only [LzS.start]; exact xpkE) ?_
    clear hT1 hf11 hn hll n21 x3 k3 h4 k4 h5 x5 x15 xs xm up hi hi2 h
    rintro ⟨y, S, M, E⟩ base'' ⟨hv, hS, hSd, hMd, hEd, hlen⟩
    dsimp only at hv hS hSd hMd hEd hlen ⊢
    have hM : PMok M := by rw [← hMd]; exact evsM_ok M0_ok _
    have hSi := hS.i
    have hE : Enc.Ok E 1000 := by rw [← hEd]; exact Enc.Ok.evs ⟨Enc.start_inv, by decide, by decide, by show 1 + _ ≤ _; omega⟩ M0_ok
    by_cases hend : S.i < bl
    case neg =>
      have hend' : S.i = bl := by omega
      refine JC.seq (sR ?_)
      refine oM ?_
      refine oM ?_
      refine JO.py (Py.lenS Tryz.underlying22 xe) ?_
      first | refine oD (Py.lss xe xe) ?_ | refine oU (Py.lss xe xe) ?_ | refine JO.py (Py.lss xe xe) ?_
      refine nC ?_
      refine cF ?_
      refine JC.exit (JX.exit (JX.exit (JX.blockE (JX.code (JC.seq (sR ?_))))))
      refine JO.py (Py.move ev_const) ?_
      refine nC (JC.block ?_)
      have hlow := hE.inv.low
      have hlo := hE.lo
      have hcnt := hE.cnt
      refine JC.loop (ι := Nat × Enc) (fun i => i.1 ≤ 5 ∧ 1 ≤ i.2.held ∧ i.2.cache < 256 ∧ i.2.low < 8589934592 ∧ i.2.cnt + i.1 ≤ (E).cnt + 5 ∧ shifts i.1 i.2 = (E).flush)
        (fun i => [(9, .pointer (some ⟨b42, 0, none⟩)), (324, .int .i64 ((5 - i.1 : Nat) : Int))]) (fun i => [CoderA b42 i.2, blk bb (.cells cs Tb fr), F]) (fun i => i.1) (5, E) ⟨Nat.le_refl _, hE.inv.held, hE.inv.cache, by dsimp only; omega, Nat.le_refl _, rfl⟩ xag xpkE ?_
      rintro ⟨k, E1⟩ base3 ⟨hk, g1, g2, g3, g4, g5⟩
      dsimp only at hk g1 g2 g3 g4 g5 ⊢
      rcases k with _ | k
      · skip
        refine sR ?_
        first | refine oD (Py.lss xe ev_const) ?_ | refine oU (Py.lss xe ev_const) ?_ | refine JO.py (Py.lss xe ev_const) ?_
        refine nC (JC.seq ?_)
        refine cF ?_
        have g5 : E1 = E.flush := g5
        rw [← hEd] at g5
        subst g5
        refine JC.open xpick ?_
        rintro vv
        show JC _ _ _ _ _ _ _ _ (_ :: _ :: _ :: _)
        refine JC.exit (JX.exit (JX.exit (JX.blockE (JX.code (sR ?_)))))
        refine oM ?_
        refine JO.py (Py.nil xe) ?_
        refine JO.py (Py.fld fld47_4 xe xoff) ?_
        refine JO.py (Py.load scal22 xe xpick xrow) ?_
        refine oA ?_
        refine nC (JC.ret ?_)
        refine JX.end1 (Or.inl rfl) (⟨(vv, y), hv, by rw [hSd]; exact hend'⟩) Tryz.results9 ((xe).trans (by first | exact xval | (dsimp only; exact xval))) xpkE
      · skip
        obtain ⟨q1, q2, q3, q4⟩ := shift_keeps g1 g2
        refine sR ?_
        first | refine oD (Py.lss xe ev_const) ?_ | refine oU (Py.lss xe ev_const) ?_ | refine JO.py (Py.lss xe ev_const) ?_
        refine nC (JC.seq ?_)
        refine cT ?_
        refine JC.skip (JX.code (JC.seq (JC.block (JC.region ?_))))
        refine oM ?_
        refine JO.call (Evs.cons xe Evs.nil) (shift_con G b42 E1 g1 g3 g2 (by omega)) xpkE ?_
        rintro _
        show JO _ _ _ _ _ _ _ ((327, _) :: _) _ (_ :: _ :: _)
        refine JO.nil (JX.blockN (JX.code (JC.region ?_)))
        refine JO.py (Py.add xe ev_const wI) ?_
        refine oM ?_
        refine JO.nil ?_
        refine JX.loop (k, E1.shift) ⟨by dsimp only; omega, q1, q2, q3, by dsimp only; omega, g5⟩ (by dsimp only; omega) xag xpkE
    case pos =>
      have hpb : 2 ^ c.pb ≤ 2 ^ 4 := Nat.pow_le_pow_right (by decide) hc2
      have hpb0 : 0 < 2 ^ c.pb := Nat.pow_pos (by decide)
      have hpi : (1 : Int) * 2 ^ c.pb = ((2 ^ c.pb : Nat) : Int) := by push_cast; simp
      have hpz : c.pos S.i < 16 := by
        unfold Cfg.pos
        have := Nat.mod_lt S.i hpb0
        omega
      refine JC.seq (sR ?_)
      refine oM ?_
      refine oM ?_
      refine JO.py (Py.lenS Tryz.underlying22 xe) ?_
      first | refine oD (Py.lss xe xe) ?_ | refine oU (Py.lss xe xe) ?_ | refine JO.py (Py.lss xe xe) ?_
      refine nC ?_
      refine cT ?_
      refine JC.skip (JX.code (JC.block (sR ?_)))
      refine oM ?_
      refine oM ?_
      refine JO.py (Py.shlN c.pb (c := ((2 ^ c.pb : Nat) : Int)) ev_const xe (by omega) (by simp only [IntKind.bits]; omega) (by rw [hpi]; exact w_i64 (by omega))) ?_
      refine JO.py (Py.sub xe ev_const wI) ?_
      refine JO.py (Py.to (Py.andS xe xe (by omega) (by omega)) (v' := .int .i64 (c.pos S.i : Nat)) (vint (by rw [and_mask rfl]; rfl))) ?_
      refine oA ?_
      refine nC (sR ?_)
      refine oC ?_
      refine oC ?_
      refine nC (JC.seq (sR ?_))
      first | refine JO.py (Py.loadA agg54 xe xpick (Nat.le_of_ble_eq_true rfl) rfl) ?_ | refine JO.py (Py.loadA agg54 xe xpick (by first | assumption | (simp; omega)) rfl) ?_
      refine JO.py (Py.move ev_const) ?_
      refine nC ?_
      refine JC.mid (ι := {x : Nat × Nat // BestOk bs S x.1 x.2 ∧ x.2 < 4}) (fun x => (27, .int .i64 (c.pos S.i : Nat)) :: (28, .int .i64 x.1.1) :: (29, .int .i64 x.1.2) :: lzL bb ob bl bc b42 b16 b17 lm lr b24 b75 T5 c nl S.st S.i) (fun _ => lzA b42 b16 b17 lm lr b24 b75 T5 S.r0 S.r1 S.r2 S.r3 S.i E M (blk bb (.cells cs Tb fr)) F) ?_ ?_
      · skip
        refine JC.block ?_
        refine JC.loop (ι := Nat × Nat × Nat) (fun x => x.1 ≤ 4 ∧ BestOk bs S x.2.1 x.2.2 ∧ x.2.2 < 4) (fun x => (86, .int .i64 x.1) :: (85, .agg #[.int .i64 S.r0, .int .i64 S.r1, .int .i64 S.r2, .int .i64 S.r3]) :: (27, .int .i64 (c.pos S.i : Nat)) :: (28, .int .i64 x.2.1) :: (29, .int .i64 x.2.2) :: lzL bb ob bl bc b42 b16 b17 lm lr b24 b75 T5 c nl S.st S.i) (fun _ => lzA b42 b16 b17 lm lr b24 b75 T5 S.r0 S.r1 S.r2 S.r3 S.i E M (blk bb (.cells cs Tb fr)) F) (fun x => 4 - x.1) (0, 0, 0) ⟨Nat.zero_le _, .inl rfl, by decide⟩ xag xpkE ?_
        rintro ⟨k, n, wh⟩ base3 ⟨hk, hbo, hwh⟩
        dsimp only at hk hbo hwh ⊢
        have hbl3 := hbo.le
        by_cases hk4 : k < 4
        case neg =>
          refine sR ?_
          first | refine oD (Py.lss xe ev_const) ?_ | refine oU (Py.lss xe ev_const) ?_ | refine JO.py (Py.lss xe ev_const) ?_
          refine nC (JC.seq ?_)
          refine cF ?_
          refine JC.exit (JX.exit (JX.exit (JX.blockE ?_)))
          refine JX.cut ⟨(n, wh), hbo, hwh⟩ xag xpkE rfl
        case pos =>
          have hget := rk_get S hk4
          have hrk := hS.rk_le k
          refine sR ?_
          first | refine oD (Py.lss xe ev_const) ?_ | refine oU (Py.lss xe ev_const) ?_ | refine JO.py (Py.lss xe ev_const) ?_
          refine nC (JC.seq ?_)
          refine cT ?_
          refine JC.skip (JX.code (JC.seq (JC.block (sR ?_))))
          refine oM ?_
          refine JO.py (Py.index Tryz.underlying54 siz3 scal3 xe xe xidx (by omega) xrow) ?_
          refine oA ?_
          refine oA ?_
          refine nC (sR ?_)
          refine oM ?_
          refine oM ?_
          refine oM ?_
          refine JO.py (Py.add xe ev_const wI) ?_
          refine JO.call (Evs.cons xe (Evs.cons xe (Evs.cons xe Evs.nil))) (equal_con G bb ob bl bc cs Tb fr bs hb hbl (by omega) S.i (S.rk k + 1) hSi (by omega) (by omega) (by omega)) xpkE ?_
          rintro ⟨m, hm⟩
          show JO _ _ _ _ _ _ _ ((94, _) :: _) _ (_ :: _ :: _)
          have hm3 := hm.le
          dsimp only
          by_cases q1 : 2 ≤ m
          case neg =>
            refine oA ?_
            refine nC (sR ?_)
            refine oM ?_
            first | refine oD (Py.geq xe ev_const) ?_ | refine oU (Py.geq xe ev_const) ?_ | refine JO.py (Py.geq xe ev_const) ?_
            refine oM ?_
            first | (refine gT ?_; (refine oM ?_)) | refine kF ?_
            first | (refine gT ?_; (refine oM ?_)) | refine kF ?_
            first | (refine gT ?_; (first | refine oD (Py.gtr xe xe) ?_ | refine oU (Py.gtr xe xe) ?_ | refine JO.py (Py.gtr xe xe) ?_)) | refine kF ?_
            first | refine JO.py (Py.pickT xe xe) ?_ | refine JO.py (Py.pickF xe ev_const) ?_
            refine nC ?_
            refine cF ?_
            refine JC.skip (JX.blockN (JX.code (JC.region ?_)))
            refine JO.py (Py.add xe ev_const wI) ?_
            refine oM ?_
            refine JO.nil ?_
            refine JX.loop (k + 1, n, wh) ⟨by dsimp only; omega, hbo, hwh⟩ (by dsimp only; omega) xag xpkE
          case pos =>
            by_cases q2 : n < m
            case neg =>
              refine oA ?_
              refine nC (sR ?_)
              refine oM ?_
              first | refine oD (Py.geq xe ev_const) ?_ | refine oU (Py.geq xe ev_const) ?_ | refine JO.py (Py.geq xe ev_const) ?_
              refine oM ?_
              first | (refine gT ?_; (refine oM ?_)) | refine kF ?_
              first | (refine gT ?_; (refine oM ?_)) | refine kF ?_
              first | (refine gT ?_; (first | refine oD (Py.gtr xe xe) ?_ | refine oU (Py.gtr xe xe) ?_ | refine JO.py (Py.gtr xe xe) ?_)) | refine kF ?_
              first | refine JO.py (Py.pickT xe xe) ?_ | refine JO.py (Py.pickF xe ev_const) ?_
              refine nC ?_
              refine cF ?_
              refine JC.skip (JX.blockN (JX.code (JC.region ?_)))
              refine JO.py (Py.add xe ev_const wI) ?_
              refine oM ?_
              refine JO.nil ?_
              refine JX.loop (k + 1, n, wh) ⟨by dsimp only; omega, hbo, hwh⟩ (by dsimp only; omega) xag xpkE
            case pos =>
              refine oA ?_
              refine nC (sR ?_)
              refine oM ?_
              first | refine oD (Py.geq xe ev_const) ?_ | refine oU (Py.geq xe ev_const) ?_ | refine JO.py (Py.geq xe ev_const) ?_
              refine oM ?_
              first | (refine gT ?_; (refine oM ?_)) | refine kF ?_
              first | (refine gT ?_; (refine oM ?_)) | refine kF ?_
              first | (refine gT ?_; (first | refine oD (Py.gtr xe xe) ?_ | refine oU (Py.gtr xe xe) ?_ | refine JO.py (Py.gtr xe xe) ?_)) | refine kF ?_
              first | refine JO.py (Py.pickT xe xe) ?_ | refine JO.py (Py.pickF xe ev_const) ?_
              refine nC ?_
              refine cT ?_
              refine JC.region ?_
              refine oM ?_
              refine oM ?_
              refine oA ?_
              refine oA ?_
              refine JO.nil (JX.blockN (JX.code (JC.region ?_)))
              refine JO.py (Py.add xe ev_const wI) ?_
              refine oM ?_
              refine JO.nil ?_
              refine JX.loop (k + 1, m, k) ⟨by dsimp only; omega, .inr ⟨q1, hk4, hm⟩, hk4⟩ (by dsimp only; omega) xag xpkE
      · skip
        rintro ⟨⟨n, wh⟩, hbo, hwh⟩ base3
        dsimp only at hbo hwh ⊢
        have hn3 := hbo.le
        refine JX.code (sR ?_)
        refine oC ?_
        refine nC (JC.seq (JC.seq ?_))
        refine JC.mid (ι := {t : Bool // t = true → n = 0 ∧ S.i + 3 ≤ bl}) (fun x => (113, .bool x.1) :: (27, .int .i64 (c.pos S.i : Nat)) :: (28, .int .i64 n) :: (29, .int .i64 wh) :: (33, .int .i64 (-1)) :: lzL bb ob bl bc b42 b16 b17 lm lr b24 b75 T5 c nl S.st S.i) (fun _ => lzA b42 b16 b17 lm lr b24 b75 T5 S.r0 S.r1 S.r2 S.r3 S.i E M (blk bb (.cells cs Tb fr)) F) ?_ ?_
        · skip
          by_cases q1 : n = 0
          · skip
            by_cases q2 : S.i + 3 ≤ bl
            · skip
              refine JC.region ?_
              refine oM ?_
              first | refine oD (Py.eql xe ev_const) ?_ | refine oU (Py.eql xe ev_const) ?_ | refine JO.py (Py.eql xe ev_const) ?_
              refine oM ?_
              first | (refine gT ?_; (refine oM ?_)) | refine kF ?_
              first | (refine gT ?_; (refine JO.py (Py.add xe ev_const wI) ?_)) | refine kF ?_
              first | (refine gT ?_; (refine oM ?_)) | refine kF ?_
              first | (refine gT ?_; (refine JO.py (Py.lenS Tryz.underlying22 xe) ?_)) | refine kF ?_
              first | (refine gT ?_; (first | refine oD (Py.leq xe xe) ?_ | refine oU (Py.leq xe xe) ?_ | refine JO.py (Py.leq xe xe) ?_)) | refine kF ?_
              first | refine JO.py (Py.pickT xe xe) ?_ | refine JO.py (Py.pickF xe ev_const) ?_
              refine JO.nil ?_
              refine JX.cut ⟨true, fun _ => ⟨q1, q2⟩⟩ xag xpkE rfl
            · skip
              refine JC.region ?_
              refine oM ?_
              first | refine oD (Py.eql xe ev_const) ?_ | refine oU (Py.eql xe ev_const) ?_ | refine JO.py (Py.eql xe ev_const) ?_
              refine oM ?_
              first | (refine gT ?_; (refine oM ?_)) | refine kF ?_
              first | (refine gT ?_; (refine JO.py (Py.add xe ev_const wI) ?_)) | refine kF ?_
              first | (refine gT ?_; (refine oM ?_)) | refine kF ?_
              first | (refine gT ?_; (refine JO.py (Py.lenS Tryz.underlying22 xe) ?_)) | refine kF ?_
              first | (refine gT ?_; (first | refine oD (Py.leq xe xe) ?_ | refine oU (Py.leq xe xe) ?_ | refine JO.py (Py.leq xe xe) ?_)) | refine kF ?_
              first | refine JO.py (Py.pickT xe xe) ?_ | refine JO.py (Py.pickF xe ev_const) ?_
              refine JO.nil ?_
              refine JX.cut ⟨false, fun h => absurd h (by decide)⟩ xag xpkE rfl
          · skip
            refine JC.region ?_
            refine oM ?_
            first | refine oD (Py.eql xe ev_const) ?_ | refine oU (Py.eql xe ev_const) ?_ | refine JO.py (Py.eql xe ev_const) ?_
            refine oM ?_
            first | (refine gT ?_; (refine oM ?_)) | refine kF ?_
            first | (refine gT ?_; (refine JO.py (Py.add xe ev_const wI) ?_)) | refine kF ?_
            first | (refine gT ?_; (refine oM ?_)) | refine kF ?_
            first | (refine gT ?_; (refine JO.py (Py.lenS Tryz.underlying22 xe) ?_)) | refine kF ?_
            first | (refine gT ?_; (first | refine oD (Py.leq xe xe) ?_ | refine oU (Py.leq xe xe) ?_ | refine JO.py (Py.leq xe xe) ?_)) | refine kF ?_
            first | refine JO.py (Py.pickT xe xe) ?_ | refine JO.py (Py.pickF xe ev_const) ?_
            refine JO.nil ?_
            refine JX.cut ⟨false, fun h => absurd h (by decide)⟩ xag xpkE rfl
        · skip
          rintro ⟨t, ht⟩ base4
          dsimp only at ht ⊢
          refine JX.code ?_
          refine JC.mid (ι := {x : Nat × Int // (x.2 = -1 ∧ x.1 = n) ∨ (∃ d : Nat, x.2 = d ∧ EqR bs S.i (d + 1) x.1)}) (fun x => (27, .int .i64 (c.pos S.i : Nat)) :: (28, .int .i64 x.1.1) :: (29, .int .i64 wh) :: (33, .int .i64 x.1.2) :: lzL bb ob bl bc b42 b16 b17 lm lr b24 b75 T5 c nl S.st S.i) (fun _ => lzA b42 b16 b17 lm lr b24 b75 T5 S.r0 S.r1 S.r2 S.r3 S.i E M (blk bb (.cells cs Tb fr)) F) ?_ ?_
          · skip
            cases t
            · skip
              refine cF ?_
              refine JC.skip ?_
              refine JX.cut ⟨(n, -1), .inl ⟨rfl, rfl⟩⟩ xag xpkE rfl
            · skip
              obtain ⟨ht1, ht2⟩ := ht rfl
              refine cT ?_
              refine sR ?_
              refine oM ?_
              refine oM ?_
              refine oM ?_
              refine JO.call (Evs.cons xe (Evs.cons xe Evs.nil)) (key_con G bb ob bl bc cs Tb fr bs hb hbl (by omega) S.i ht2) xpkE ?_
              rintro kk
              show JO _ _ _ _ _ _ _ ((118, _) :: _) _ (_ :: _ :: _)
              refine JO.lookup Tryz.underlying55 Tryz.underlying3 zer3 xe xe xpick ?_
              rintro v ok hvo
              refine oM ?_
              refine JO.py (Py.extrI xe xix) ?_
              refine JO.py (Py.extrI xe xix) ?_
              refine oA ?_
              refine oA ?_
              refine nC (sR ?_)
              refine oM ?_
              refine nC ?_
              cases ok
              · skip
                refine cF ?_
                refine JC.skip ?_
                refine JX.cut ⟨(n, -1), .inl ⟨rfl, rfl⟩⟩ xag xpkE rfl
              · skip
                obtain ⟨at_, rfl, hat⟩ := (hvo.resolve_right (by simp)).2
                refine cT ?_
                refine JC.region ?_
                refine oM ?_
                refine oM ?_
                refine oM ?_
                refine oM ?_
                refine JO.py (Py.sub xe xe wI) ?_
                refine JO.call (Evs.cons xe (Evs.cons xe (Evs.cons xe Evs.nil))) (equal_con G bb ob bl bc cs Tb fr bs hb hbl (by omega) S.i (S.i - at_) hSi (by omega) (by omega) (by omega)) xpkE ?_
                rintro ⟨m, hm⟩
                show JO _ _ _ _ _ _ _ ((128, _) :: _) _ (_ :: _ :: _)
                dsimp only
                refine oM ?_
                refine oM ?_
                refine JO.py (Py.sub xe xe wI) ?_
                refine JO.py (Py.sub xe ev_const wI) ?_
                refine oA ?_
                refine oA ?_
                refine JO.nil ?_
                refine JX.cut ⟨(m, ((S.i - at_ - 1 : Nat) : Int)), .inr ⟨S.i - at_ - 1, rfl, by rw [show S.i - at_ - 1 + 1 = S.i - at_ by omega]; exact hm⟩⟩ xag xpkE rfl
          · skip
            rintro ⟨⟨n2, di⟩, hb2⟩ base5
            dsimp only at hb2 ⊢
            have hn23 : n2 ≤ 273 := by
              rcases hb2 with ⟨_, h⟩ | ⟨_, _, h⟩
              · omega
              · exact h.le
            have hst := hS.st
            refine JX.code (sR ?_)
            refine oC ?_
            refine nC (JC.seq ?_)
            refine JC.mid (ι := {y : Sym // Valid bs S y ∧ ∀ d n, y = .mat d n → d < 1048576}) (fun y => (36, .int .i64 (y.1.n : Nat)) :: lzL bb ob bl bc b42 b16 b17 lm lr b24 b75 T5 c nl (S.next y.1).st S.i) (fun y => lzA b42 b16 b17 lm lr b24 b75 T5 (S.next y.1).r0 (S.next y.1).r1 (S.next y.1).r2 (S.next y.1).r3 S.i (Enc.evs M E (symEv c bs S y.1)) (evsM M (symEv c bs S y.1)) (blk bb (.cells cs Tb fr)) F) ?_ ?_
            · skip
              refine JC.block (sR ?_)
              refine oM ?_
              first | refine oD (Py.lss xe ev_const) ?_ | refine oU (Py.lss xe ev_const) ?_ | refine JO.py (Py.lss xe ev_const) ?_
              refine oA ?_
              refine nC ?_
              by_cases q1 : n2 < 2
              case pos =>
                obtain ⟨hbi, hbv⟩ := hb S.i (by omega)
                refine cT ?_
                refine sR ?_
                refine oM ?_
                refine oM ?_
                refine oM ?_
                refine JO.py (Py.mul ev_const xe wI) ?_
                refine oM ?_
                refine JO.py (Py.add xe xe wI) ?_
                refine JO.py (Py.idxS (j := 16 * S.st + c.pos S.i) Tryz.underlying48 siz61 xe xe (by omega) (by omega) xmult) ?_
                refine JO.call (Evs.cons xe (Evs.cons xe (Evs.cons ev_const Evs.nil))) (bitM hR.ok hM (hE.mono (by omega)) (hR.row 0 192 (by simp)).1 (ix := 16 * S.st + c.pos S.i) (by omega) false rfl) xpkE ?_
                rintro _
                show JO _ _ _ _ _ _ _ ((182, _) :: _) _ (_ :: _ :: _ :: _)
                refine nC (sR ?_)
                refine oC ?_
                refine nC (JC.seq (sR ?_))
                refine oM ?_
                first | refine oD (Py.gtr xe ev_const) ?_ | refine oU (Py.gtr xe ev_const) ?_ | refine JO.py (Py.gtr xe ev_const) ?_
                refine nC ?_
                obtain ⟨bef, hbef⟩ : ∃ x, (if S.i = 0 then 0 else bs.getD (S.i - 1) 0) = x := ⟨_, rfl⟩
                have hbv2 : bef < 256 := by
                  rw [← hbef]; split
                  · decide
                  · exact (hb (S.i - 1) (by omega)).2
                refine JC.mid (ι := Unit) (fun _ => (37, .int .i64 bef) :: (36, .int .i64 1) :: (27, .int .i64 (c.pos S.i : Nat)) :: lzL bb ob bl bc b42 b16 b17 lm lr b24 b75 T5 c nl S.st S.i) (fun _ => lzA b42 b16 b17 lm lr b24 b75 T5 S.r0 S.r1 S.r2 S.r3 S.i (E.ev M (.bit 0 (16 * S.st + c.pos S.i) false)) (evM M (.bit 0 (16 * S.st + c.pos S.i) false)) (blk bb (.cells cs Tb fr)) F) ?_ ?_
                · skip
                  by_cases z : S.i = 0
                  case pos =>
                    rw [if_pos z] at hbef
                    subst hbef
                    refine cF ?_
                    refine JC.skip ?_
                    refine JX.cut () xag xpkE rfl
                  case neg =>
                    rw [if_neg z] at hbef
                    obtain ⟨hbp, _⟩ := hb (S.i - 1) (by omega)
                    rw [hbef] at hbp
                    refine cT ?_
                    refine JC.region ?_
                    refine oM ?_
                    refine oM ?_
                    refine JO.py (Py.sub xe ev_const wI) ?_
                    refine JO.py (Py.idxS (j := S.i - 1) Tryz.underlying22 siz5 xe xe (by omega) (by omega) xmult) ?_
                    refine JO.py (Py.load scal5 xe xpick xrow) ?_
                    first | refine JO.py (Py.conv cnv5_3 xe wI) ?_ | refine JO.py (Py.conv cnv5_3 xe rfl) ?_
                    refine oA ?_
                    refine JO.nil ?_
                    refine JX.cut () xag xpkE rfl
                · skip
                  rintro _ base6
                  refine JX.code (JC.seq ?_)
                  refine JC.regionD mixed (by kernel_rfl) ?_
                  refine JD.py (Py.move xe) ?_
                  refine JD.py (Py.move xe) ?_
                  refine JD.py (Py.move xe) ?_
                  have hO := litO_le (c := c) (i := S.i) hbv2 (by omega)
                  have hO2 : c.litO bs S.i = 768 * (S.i % 2 ^ c.lp * 2 ^ c.lc + bef / 2 ^ (8 - c.lc)) := by unfold Cfg.litO; rw [hbef]
                  obtain ⟨ox, hox⟩ : ∃ x, S.i % 2 ^ c.lp * 2 ^ c.lc = x := ⟨_, rfl⟩
                  obtain ⟨oy, hoy⟩ : ∃ x, bef / 2 ^ (8 - c.lc) = x := ⟨_, rfl⟩
                  obtain ⟨oN, hoN⟩ : ∃ x, 2 ^ (c.lc + c.lp) = x := ⟨_, rfl⟩
                  obtain ⟨oo, hoo⟩ : ∃ x, c.litO bs S.i = x := ⟨_, rfl⟩
                  have hlit := hR.lit
                  have hr0 := hS.r.1
                  rw [hox, hoy, hoN] at hO
                  rw [hox, hoy, hoo] at hO2
                  rw [hoN] at hlit
                  have hnl2 : nl = 768 * oN := by rw [← hnl, hoN]
                  have hNN : oN ≤ 2 ^ 4 := by rw [← hoN]; exact Nat.pow_le_pow_right (by decide) (by omega)
                  have hoi : ((oo : Nat) : Int) = 768 * (ox + oy : Int) := by omega
                  have hlp : 2 ^ c.lp ≤ 2 ^ 4 := Nat.pow_le_pow_right (by decide) (by omega)
                  have hlpi : (1 : Int) * 2 ^ c.lp = ((2 ^ c.lp : Nat) : Int) := by push_cast; simp
                  have hlp0 : 0 < 2 ^ c.lp := Nat.pow_pos (by decide)
                  have hx1 : ((S.i % 2 ^ c.lp : Nat) : Int) * 2 ^ c.lc = ((S.i % 2 ^ c.lp * 2 ^ c.lc : Nat) : Int) := by push_cast; rfl
                  refine JD.py (Py.shlN c.lp (c := ((2 ^ c.lp : Nat) : Int)) ev_const xe (by omega) (by simp only [IntKind.bits]; omega) (by rw [hlpi]; exact w_i64 (by omega))) ?_
                  refine JD.py (Py.sub xe ev_const wI) ?_
                  refine JD.py (Py.to (Py.andS xe xe (by omega) (by omega)) (v' := .int .i64 (S.i % 2 ^ c.lp : Nat)) (vint (by rw [and_mask rfl]))) ?_
                  refine JD.py (Py.move xe) ?_
                  refine JD.py (Py.shlN c.lc (c := ((ox : Nat) : Int)) xe xe (by omega) (by simp only [IntKind.bits]; omega) (by rw [hx1, hox]; exact w_i64 (by omega))) ?_
                  refine JD.py (Py.move xe) ?_
                  refine JD.py (Py.move xe) ?_
                  refine JD.py (Py.sub ev_const xe wI) ?_
                  refine JD.py (Py.to (Py.shrN (8 - c.lc) (a := bef) xe xe (by omega) (by simp only [IntKind.bits]; omega)) (v' := .int .i64 (oy : Nat)) (vint (by rw [hoy]))) ?_
                  refine JD.py (Py.add xe xe wI) ?_
                  refine JD.py (Py.mul ev_const xe wI) ?_
                  refine JD.py (Py.slc (l := oo) (h := nl) (p := oo) (q := nl - oo) (c := nl - oo) Tryz.underlying48 siz61 xe (Bd.some xe (by omega)) Bd.none (by omega) (by omega) (by omega) (by omega) (by omega) (by omega)) ?_
                  refine JD.py (Py.assign xe) ?_
                  refine JD.nilN (JX.code (JC.seq ?_))
                  refine JC.regionM [(0, true), (1, true), (2, true), (3, true), (4, true), (5, true), (6, true), (7, true), (8, true), (9, true), (10, true), (11, true), (12, true), (13, true), (14, false)] mixed (by kernel_rfl) ?_
                  refine JM.py ao ⟨fun _ => Py.move xe⟩ ?_
                  refine JM.py ao ⟨fun _ => Py.move xe⟩ ?_
                  refine JM.py ao ⟨fun _ => Py.move xe⟩ ?_
                  refine JM.py ao ⟨fun _ => Py.move xe⟩ ?_
                  refine JM.py ao ⟨fun _ => Py.idxS (j := S.i) Tryz.underlying22 siz5 xe xe (by omega) (by omega) xmult⟩ ?_
                  refine JM.ld ao scal5 xe xpick xrow ?_
                  first | refine JM.py ao ⟨fun _ => Py.conv cnv5_3 xe wI⟩ ?_ | refine JM.py ao ⟨fun _ => Py.conv cnv5_3 xe rfl⟩ ?_
                  refine JM.py ao ⟨fun _ => Py.move xe⟩ ?_
                  refine JM.py ao ⟨fun _ => Py.move xe⟩ ?_
                  refine JM.py ao ⟨fun _ => Py.move xe⟩ ?_
                  refine JM.py ao ⟨fun _ => Py.idxA Tryz.underlying54 siz3 xe ev_const (by omega) xidx xmult⟩ ?_
                  refine JM.ld ao scal3 xe xpick xrow ?_
                  refine JM.py ao ⟨fun _ => Py.sub xe xe wI⟩ ?_
                  refine JM.py ao ⟨fun _ => Py.sub xe ev_const wI⟩ ?_
                  have hold : bs.getD (S.i - S.r0 - 1) 0 < 256 := (hb (S.i - S.r0 - 1) (by omega)).2
                  refine JM.eff ao ?_
                  refine JO.call (Evs.cons xe (Evs.cons xe (Evs.cons xe (Evs.cons xe (Evs.cons xe (Evs.cons xe Evs.nil)))))) (lit_con G b42 T5 hR.ok _ (evM_ok hM _) _ 21 oo (bs.getD S.i 0) S.st _ _ bb ob bl bc (bs.getD (S.i - S.r0 - 1) 0) ((S.i : Int) - S.r0 - 1) cs Tb fr (Enc.Ok.ev (hE.mono (by omega)) hM _) hbv hold hlit.1 (by omega) (by omega) hst (fun h7 => by have := hS.old h7; refine ⟨by omega, by omega, ?_⟩; rw [show ((S.i : Int) - S.r0 - 1).toNat = S.i - S.r0 - 1 by omega]; exact (hb _ (by omega)).1)) xpkE ?_
                  rintro _
                  show JO _ _ _ _ _ _ _ ((220, _) :: _) _ (_ :: _ :: _ :: _ :: _)
                  refine JO.nil ?_
                  refine JX.mix (Kept.drop (Forced.trans (q := 12) (Forced.step (by kernel_rfl)) (Forced.trans (q := 13) (Forced.step (by kernel_rfl)) (Forced.step (by kernel_rfl)))) (Kept.drop (Forced.trans (q := 6) (Forced.step (by kernel_rfl)) (Forced.step (by kernel_rfl))) Kept.nil)) ?_
                  refine JM.nil (JX.code (JC.region ?_))
                  refine oM ?_
                  refine JO.call (Evs.cons xe Evs.nil) (afterLit_con G S.st hst) xpkE ?_
                  rintro _
                  show JO _ _ _ _ _ _ _ ((222, _) :: _) _ (_ :: _)
                  refine oA ?_
                  refine JO.nil (JX.blockN ?_)
                  refine JX.cut ⟨.lit, ⟨by omega, hS.old⟩, fun d n h => by cases h⟩ (by simp only [LzS.next, Sym.n]; exact xag) (by simp only [LzS.next, symEv, hoo]; exact xpkE) rfl
              case neg =>
                refine cF ?_
                refine sR ?_
                refine oM ?_
                first | refine oD (Py.lss xe ev_const) ?_ | refine oU (Py.lss xe ev_const) ?_ | refine JO.py (Py.lss xe ev_const) ?_
                refine oA ?_
                refine nC ?_
                rcases hb2 with ⟨rfl, rfl⟩ | ⟨d, rfl, hd⟩
                · skip
                  have hbo' := hbo.resolve_left (by omega)
                  refine cT ?_
                  refine sR ?_
                  refine oM ?_
                  refine oM ?_
                  refine oM ?_
                  refine JO.py (Py.mul ev_const xe wI) ?_
                  refine oM ?_
                  refine JO.py (Py.add xe xe wI) ?_
                  refine JO.py (Py.idxS (j := 16 * S.st + c.pos S.i) Tryz.underlying48 siz61 xe xe (by omega) (by omega) xmult) ?_
                  refine JO.call (Evs.cons xe (Evs.cons xe (Evs.cons ev_const Evs.nil))) (bitM hR.ok hM (hE.mono (by omega)) (hR.row 0 192 (by simp)).1 (ix := 16 * S.st + c.pos S.i) (by omega) true rfl) xpkE ?_
                  rintro _
                  show JO _ _ _ _ _ _ _ ((233, _) :: _) _ (_ :: _ :: _ :: _)
                  have hM1 := evM_ok hM (.bit 0 (16 * S.st + c.pos S.i) true)
                  have hE1 : Enc.Ok (E.ev M (.bit 0 (16 * S.st + c.pos S.i) true)) 100 := Enc.Ok.ev (hE.mono (by omega)) hM _
                  refine nC (sR ?_)
                  refine oM ?_
                  refine oM ?_
                  refine oM ?_
                  refine JO.py (Py.idxS (j := S.st) Tryz.underlying48 siz61 xe xe (by omega) (by omega) xmult) ?_
                  refine JO.call (Evs.cons xe (Evs.cons xe (Evs.cons ev_const Evs.nil))) (bitM hR.ok hM1 (hE1.mono (by omega)) (hR.row 1 12 (by simp)).1 (ix := S.st) (by omega) true rfl) xpkE ?_
                  rintro _
                  show JO _ _ _ _ _ _ _ ((238, _) :: _) _ (_ :: _ :: _ :: _)
                  have hM2 := evM_ok hM1 (.bit 1 S.st true)
                  have hE2 : Enc.Ok ((E.ev M (.bit 0 (16 * S.st + c.pos S.i) true)).ev _ (.bit 1 S.st true)) 99 := Enc.Ok.ev hE1 hM1 _
                  refine nC (JC.seq (sR ?_))
                  refine oM ?_
                  refine nC (JC.block (sR ?_))
                  first | refine oD (Py.eql xe ev_const) ?_ | refine oU (Py.eql xe ev_const) ?_ | refine JO.py (Py.eql xe ev_const) ?_
                  refine oA ?_
                  refine nC ?_
                  refine JC.ren (M := evM (evM M (.bit 0 (16 * S.st + c.pos S.i) true)) (.bit 1 S.st true)) (E := (E.ev M (.bit 0 (16 * S.st + c.pos S.i) true)).ev (evM M (.bit 0 (16 * S.st + c.pos S.i) true)) (.bit 1 S.st true)) xpick xpick ?_
                  intro M2 E2 hMd2 hEd2
                  rw [hMd2] at hM2
                  rw [hEd2] at hE2
                  refine JC.mid (ι := Unit) (fun _ => (27, .int .i64 (c.pos S.i : Nat)) :: (28, .int .i64 n2) :: (29, .int .i64 wh) :: lzL bb ob bl bc b42 b16 b17 lm lr b24 b75 T5 c nl S.st S.i) (fun _ => lzA b42 b16 b17 lm lr b24 b75 T5 S.r0 S.r1 S.r2 S.r3 S.i (Enc.evs M2 E2 (repEv S.st (c.pos S.i) wh)) (evsM M2 (repEv S.st (c.pos S.i) wh)) (blk bb (.cells cs Tb fr)) F) ?_ ?_
                  · skip
                    unfold repEv
                    by_cases w0 : wh = 0
                    case pos =>
                      refine cT ?_
                      rw [if_pos w0]
                      refine sR ?_
                      refine oM ?_
                      refine oM ?_
                      refine oM ?_
                      refine JO.py (Py.idxS (j := S.st) Tryz.underlying48 siz61 xe xe (by omega) (by omega) xmult) ?_
                      refine JO.call (Evs.cons xe (Evs.cons xe (Evs.cons ev_const Evs.nil))) (bitM hR.ok hM2 (hE2.mono (by omega)) (hR.row 2 12 (by simp)).1 (ix := S.st) (by omega) false rfl) xpkE ?_
                      rintro _
                      show JO _ _ _ _ _ _ _ ((263, _) :: _) _ (_ :: _ :: _ :: _)
                      refine nC (JC.region ?_)
                      refine oM ?_
                      refine oM ?_
                      refine oM ?_
                      refine JO.py (Py.mul ev_const xe wI) ?_
                      refine oM ?_
                      refine JO.py (Py.add xe xe wI) ?_
                      refine JO.py (Py.idxS (j := 16 * S.st + c.pos S.i) Tryz.underlying48 siz61 xe xe (by omega) (by omega) xmult) ?_
                      refine JO.call (Evs.cons xe (Evs.cons xe (Evs.cons ev_const Evs.nil))) (bitM hR.ok (evM_ok hM2 _) (Enc.Ok.ev (hE2.mono (by omega)) hM2 _) (hR.row 5 192 (by simp)).1 (ix := 16 * S.st + c.pos S.i) (by omega) true rfl) xpkE ?_
                      rintro _
                      show JO _ _ _ _ _ _ _ ((271, _) :: _) _ (_ :: _ :: _ :: _)
                      refine JO.nil ?_
                      refine JX.cut () xag xpkE rfl
                    case neg =>
                      rw [if_neg w0]
                      refine cF ?_
                      refine sR ?_
                      first | refine oD (Py.eql xe ev_const) ?_ | refine oU (Py.eql xe ev_const) ?_ | refine JO.py (Py.eql xe ev_const) ?_
                      refine oA ?_
                      refine nC ?_
                      by_cases w1 : wh = 1
                      case pos =>
                        refine cT ?_
                        rw [if_pos w1]
                        refine sR ?_
                        refine oM ?_
                        refine oM ?_
                        refine oM ?_
                        refine JO.py (Py.idxS (j := S.st) Tryz.underlying48 siz61 xe xe (by omega) (by omega) xmult) ?_
                        refine JO.call (Evs.cons xe (Evs.cons xe (Evs.cons ev_const Evs.nil))) (bitM hR.ok hM2 (hE2.mono (by omega)) (hR.row 2 12 (by simp)).1 (ix := S.st) (by omega) true rfl) xpkE ?_
                        rintro _
                        show JO _ _ _ _ _ _ _ ((278, _) :: _) _ (_ :: _ :: _ :: _)
                        refine nC (JC.region ?_)
                        refine oM ?_
                        refine oM ?_
                        refine oM ?_
                        refine JO.py (Py.idxS (j := S.st) Tryz.underlying48 siz61 xe xe (by omega) (by omega) xmult) ?_
                        refine JO.call (Evs.cons xe (Evs.cons xe (Evs.cons ev_const Evs.nil))) (bitM hR.ok (evM_ok hM2 _) (Enc.Ok.ev (hE2.mono (by omega)) hM2 _) (hR.row 3 12 (by simp)).1 (ix := S.st) (by omega) false rfl) xpkE ?_
                        rintro _
                        show JO _ _ _ _ _ _ _ ((283, _) :: _) _ (_ :: _ :: _ :: _)
                        refine JO.nil ?_
                        refine JX.cut () xag xpkE rfl
                      case neg =>
                        rw [if_neg w1]
                        have hwb : (wh : Int) - 2 = ((wh == 3).toNat : Int) := by
                          have : wh = 2 ∨ wh = 3 := by omega
                          rcases this with rfl | rfl <;> rfl
                        refine cF ?_
                        refine sR ?_
                        refine oM ?_
                        refine oM ?_
                        refine oM ?_
                        refine JO.py (Py.idxS (j := S.st) Tryz.underlying48 siz61 xe xe (by omega) (by omega) xmult) ?_
                        refine JO.call (Evs.cons xe (Evs.cons xe (Evs.cons ev_const Evs.nil))) (bitM hR.ok hM2 (hE2.mono (by omega)) (hR.row 2 12 (by simp)).1 (ix := S.st) (by omega) true rfl) xpkE ?_
                        rintro _
                        show JO _ _ _ _ _ _ _ ((244, _) :: _) _ (_ :: _ :: _ :: _)
                        refine nC (sR ?_)
                        refine oM ?_
                        refine oM ?_
                        refine oM ?_
                        refine JO.py (Py.idxS (j := S.st) Tryz.underlying48 siz61 xe xe (by omega) (by omega) xmult) ?_
                        refine JO.call (Evs.cons xe (Evs.cons xe (Evs.cons ev_const Evs.nil))) (bitM hR.ok (evM_ok hM2 _) (Enc.Ok.ev (hE2.mono (by omega)) hM2 _) (hR.row 3 12 (by simp)).1 (ix := S.st) (by omega) true rfl) xpkE ?_
                        rintro _
                        show JO _ _ _ _ _ _ _ ((249, _) :: _) _ (_ :: _ :: _ :: _)
                        refine nC (JC.region ?_)
                        refine oM ?_
                        refine oM ?_
                        refine oM ?_
                        refine JO.py (Py.idxS (j := S.st) Tryz.underlying48 siz61 xe xe (by omega) (by omega) xmult) ?_
                        refine oM ?_
                        refine JO.py (Py.sub xe ev_const wI) ?_
                        refine JO.call (Evs.cons xe (Evs.cons xe (Evs.cons xe Evs.nil))) (bitM hR.ok (evM_ok (evM_ok hM2 _) _) (Enc.Ok.ev (Enc.Ok.ev (hE2.mono (by omega)) hM2 _) (evM_ok hM2 _) _) (hR.row 4 12 (by simp)).1 (ix := S.st) (by omega) (wh == 3) hwb) xpkE ?_
                        rintro _
                        show JO _ _ _ _ _ _ _ ((256, _) :: _) _ (_ :: _ :: _ :: _)
                        refine JO.nil ?_
                        refine JX.cut () xag xpkE rfl
                  · skip
                    rintro _ base6
                    have hrl := repEv_len S.st (c.pos S.i) wh
                    have hM3 := evsM_ok hM2 (repEv S.st (c.pos S.i) wh)
                    have hE3 : Enc.Ok (Enc.evs M2 E2 (repEv S.st (c.pos S.i) wh)) 90 := Enc.Ok.evs (hE2.mono (by omega)) hM2
                    have hget := rk_get S hwh
                    refine JX.blockN (JX.code (sR ?_))
                    refine oM ?_
                    refine JO.py (Py.idxA (j := wh) Tryz.underlying54 siz3 xe xe (by omega) (by omega) xmult) ?_
                    refine JO.py (Py.load scal3 xe xpick xrow) ?_
                    refine oA ?_
                    refine nC (JC.seq (sR ?_))
                    refine oM ?_
                    refine oA ?_
                    refine nC (JC.block ?_)
                    refine JC.as (A := cel b24 54 _) (A' := cel b24 54 (rotC S wh wh)) xpick (cel_eq (by exact (rotC_start S wh).symm)) ?_
                    refine JC.loop (ι := Nat) (fun k => k ≤ wh) (fun k => (40, .int .i64 k) :: (39, .int .i64 (S.rk wh)) :: (27, .int .i64 (c.pos S.i : Nat)) :: (28, .int .i64 n2) :: lzL bb ob bl bc b42 b16 b17 lm lr b24 b75 T5 c nl S.st S.i) (fun k => [CoderA b42 (Enc.evs M2 E2 (repEv S.st (c.pos S.i) wh)), Chances T5 (evsM M2 (repEv S.st (c.pos S.i) wh)), cel b16 50 #[T5.sl 6, T5.sl 7, T5.sl 8, T5.sl 9], cel b17 51 (specCells T5), cel lm 75 (lenCells T5 matI), cel lr 75 (lenCells T5 repI), cel b24 54 (rotC S wh k), MapI b75 (fun v => ∃ a : Nat, v = .int .i64 a ∧ a < S.i), blk bb (.cells cs Tb fr), F]) (fun k => k) wh (Nat.le_refl _) xag xpkE ?_
                    rintro k base7 hkw
                    have hkw : k ≤ wh := hkw
                    have hrs := rotC_size S wh k
                    rcases k with _ | k
                    · skip
                      refine JC.seq (sR ?_)
                      refine oM ?_
                      first | refine oD (Py.gtr xe ev_const) ?_ | refine oU (Py.gtr xe ev_const) ?_ | refine JO.py (Py.gtr xe ev_const) ?_
                      refine nC ?_
                      refine cF ?_
                      refine JC.exit (JX.exit (JX.exit (JX.blockE (JX.code (sR ?_)))))
                      refine oM ?_
                      refine JO.py (Py.idxA Tryz.underlying54 siz3 xe ev_const (by omega) xidx xmult) ?_
                      refine JO.store siz3 xe xe (by first | rfl | assumption) xpick xsize xnorm ?_
                      refine nC (sR ?_)
                      refine oM ?_
                      refine oM ?_
                      refine oM ?_
                      refine oM ?_
                      refine JO.as (A := cel b24 54 _) (A' := cel b24 54 #[.int .i64 (S.next (.rep wh n2)).r0, .int .i64 (S.next (.rep wh n2)).r1, .int .i64 (S.next (.rep wh n2)).r2, .int .i64 (S.next (.rep wh n2)).r3]) xpick (cel_eq (by exact rotC_end S hwh)) ?_
                      refine JO.call (Evs.cons xe (Evs.cons xe (Evs.cons xe (Evs.cons xe Evs.nil)))) (put_con G b42 lr T5 hR.ok repI hR.rep _ hM3 _ n2 (c.pos S.i) (hE3.mono (by omega)) (by omega) hpz) xpkE ?_
                      rintro _
                      show JO _ _ _ _ _ _ _ ((304, _) :: _) _ (_ :: _ :: _ :: _ :: _)
                      refine nC (sR ?_)
                      refine oM ?_
                      refine JO.call (Evs.cons xe (Evs.cons ev_const (Evs.cons ev_const Evs.nil))) (afterN_con G S.st 8 11) xpkE ?_
                      rintro _
                      show JO _ _ _ _ _ _ _ ((306, _) :: _) _ (_ :: _)
                      refine oA ?_
                      refine nC (JC.region ?_)
                      refine oM ?_
                      refine oA ?_
                      refine JO.nil (JX.blockN ?_)
                      refine JX.cut ⟨.rep wh n2, ⟨hwh, by omega, hbo'.2.2⟩, fun d n h => by cases h⟩ (by simp only [LzS.next, Sym.n]; exact xag) (by simp only [LzS.next, symEv, evs_cons, evsM_cons, Enc.evs_append, evsM_append, hMd2, hEd2]; exact xpkE) rfl
                    · skip
                      have hg := rotC_get S (k := wh) (i := k + 1) (j := k) (by omega) (by omega)
                      refine JC.seq (sR ?_)
                      refine oM ?_
                      first | refine oD (Py.gtr xe ev_const) ?_ | refine oU (Py.gtr xe ev_const) ?_ | refine JO.py (Py.gtr xe ev_const) ?_
                      refine nC ?_
                      refine cT ?_
                      refine JC.skip (JX.code (JC.seq (JC.block (JC.region ?_))))
                      refine oM ?_
                      refine oM ?_
                      refine JO.py (Py.sub xe ev_const wI) ?_
                      refine JO.py (Py.idxA (j := k) Tryz.underlying54 siz3 xe xe (by omega) (by omega) xmult) ?_
                      refine JO.py (Py.load scal3 xe xpick xrow) ?_
                      refine JO.py (Py.idxA (j := k + 1) Tryz.underlying54 siz3 xe xe (by omega) (by omega) xmult) ?_
                      refine JO.store siz3 xe xe (by first | rfl | assumption) xpick xsize xnorm ?_
                      refine JO.nil (JX.blockN (JX.code (JC.region ?_)))
                      refine oM ?_
                      refine JO.py (Py.sub xe ev_const wI) ?_
                      refine oA ?_
                      refine JO.nil ?_
                      refine JX.as (A := cel b24 54 _) (A' := cel b24 54 (rotC S wh k)) xpick (cel_eq (by exact rotC_step S (by omega))) ?_
                      refine JX.loop k (by (try dsimp only); omega) (by (try dsimp only); omega) xag xpkE
                · skip
                  have hdd := hd.dist.resolve_left (by omega)
                  have hSb := hSi
                  refine cF ?_
                  refine sR ?_
                  refine oM ?_
                  refine oM ?_
                  refine oM ?_
                  refine JO.py (Py.mul ev_const xe wI) ?_
                  refine oM ?_
                  refine JO.py (Py.add xe xe wI) ?_
                  refine JO.py (Py.idxS (j := 16 * S.st + c.pos S.i) Tryz.underlying48 siz61 xe xe (by omega) (by omega) xmult) ?_
                  refine JO.call (Evs.cons xe (Evs.cons xe (Evs.cons ev_const Evs.nil))) (bitM hR.ok hM (hE.mono (by omega)) (hR.row 0 192 (by simp)).1 (ix := 16 * S.st + c.pos S.i) (by omega) true rfl) xpkE ?_
                  rintro _
                  show JO _ _ _ _ _ _ _ ((140, _) :: _) _ (_ :: _ :: _ :: _)
                  have hM1 := evM_ok hM (.bit 0 (16 * S.st + c.pos S.i) true)
                  have hE1 : Enc.Ok (E.ev M (.bit 0 (16 * S.st + c.pos S.i) true)) 100 := Enc.Ok.ev (hE.mono (by omega)) hM _
                  refine nC (sR ?_)
                  refine oM ?_
                  refine oM ?_
                  refine oM ?_
                  refine JO.py (Py.idxS (j := S.st) Tryz.underlying48 siz61 xe xe (by omega) (by omega) xmult) ?_
                  refine JO.call (Evs.cons xe (Evs.cons xe (Evs.cons ev_const Evs.nil))) (bitM hR.ok hM1 (hE1.mono (by omega)) (hR.row 1 12 (by simp)).1 (ix := S.st) (by omega) false rfl) xpkE ?_
                  rintro _
                  show JO _ _ _ _ _ _ _ ((145, _) :: _) _ (_ :: _ :: _ :: _)
                  have hM2 := evM_ok hM1 (.bit 1 S.st false)
                  have hE2 : Enc.Ok ((E.ev M (.bit 0 (16 * S.st + c.pos S.i) true)).ev _ (.bit 1 S.st false)) 99 := Enc.Ok.ev hE1 hM1 _
                  refine nC (sR ?_)
                  refine oM ?_
                  refine oM ?_
                  refine oM ?_
                  refine oM ?_
                  refine JO.ren (M := evM (evM M (.bit 0 (16 * S.st + c.pos S.i) true)) (.bit 1 S.st false)) (E := (E.ev M (.bit 0 (16 * S.st + c.pos S.i) true)).ev (evM M (.bit 0 (16 * S.st + c.pos S.i) true)) (.bit 1 S.st false)) xpick xpick ?_
                  intro M2 E2 hMd2 hEd2
                  rw [hMd2] at hM2
                  rw [hEd2] at hE2
                  refine JO.call (Evs.cons xe (Evs.cons xe (Evs.cons xe (Evs.cons xe Evs.nil)))) (put_con G b42 lm T5 hR.ok matI hR.mat _ hM2 _ n2 (c.pos S.i) (hE2.mono (by omega)) (by omega) hpz) xpkE ?_
                  rintro _
                  show JO _ _ _ _ _ _ _ ((150, _) :: _) _ (_ :: _ :: _ :: _ :: _)
                  have hll := lenEv_len matI n2 (c.pos S.i)
                  have hM3 := evsM_ok hM2 (lenEv matI n2 (c.pos S.i))
                  have hE3 : Enc.Ok (Enc.evs M2 E2 (lenEv matI n2 (c.pos S.i))) 50 := Enc.Ok.evs (hE2.mono (by omega)) hM2
                  obtain ⟨kk, hkk⟩ : ∃ x, min (n2 - 2) 3 = x := ⟨_, rfl⟩
                  have hk4 : kk < 4 := by omega
                  have hget := slots_get T5 hk4
                  refine nC (JC.seq ?_)
                  refine JC.regionM [(0, true), (1, true), (2, true), (3, true), (4, true), (5, true), (6, true), (7, true), (8, true), (9, false)] mixed (by kernel_rfl) ?_
                  refine JM.py ao ⟨fun _ => Py.move xe⟩ ?_
                  refine JM.py ao ⟨fun _ => Py.move xe⟩ ?_
                  refine JM.py ao ⟨fun _ => Py.sub xe ev_const wI⟩ ?_
                  refine JM.py ao ⟨fun _ => Py.to (Py.min2 xe ev_const) (v' := .int .i64 (kk : Nat)) (by split <;> exact vint (by omega))⟩ ?_
                  refine JM.py ao ⟨fun _ => Py.idxA (j := kk) Tryz.underlying50 siz48 xe xe (by omega) (by omega) xmult⟩ ?_
                  refine JM.ld ao scal48 xe xpick xrow ?_
                  refine JM.ldA (vs := specCells T5) ao agg51 xe xpick (by first | exact Nat.le_of_ble_eq_true rfl | assumption | (simp; omega) | fail) (by rw [show 0 + 14 = (specCells T5).size by simp [specCells]]; exact Array.extract_size) ?_
                  refine JM.py ao ⟨fun _ => Py.move xe⟩ ?_
                  refine JM.py ao ⟨fun _ => Py.move xe⟩ ?_
                  refine JM.eff ao ?_
                  refine JO.call (Evs.cons xe (Evs.cons xe (Evs.cons xe (Evs.cons xe (Evs.cons xe Evs.nil))))) (dist_con G b42 T5 hR.ok _ hM3 _ (6 + kk) d (hR.dist kk hk4) (hE3.mono (by omega)) (by omega)) xpkE ?_
                  rintro _
                  show JO _ _ _ _ _ _ _ ((160, _) :: _) _ (_ :: _ :: _ :: _)
                  refine JO.nil ?_
                  refine JX.mix (Kept.drop (Forced.step (by kernel_rfl)) (Kept.drop (Forced.step (by kernel_rfl)) Kept.nil)) ?_
                  refine JM.nil (JX.code (sR ?_))
                  refine oM ?_
                  refine JO.py (Py.idxA Tryz.underlying54 siz3 xe ev_const (by omega) xidx xmult) ?_
                  refine JO.py (Py.load scal3 xe xpick xrow) ?_
                  refine JO.py (Py.idxA Tryz.underlying54 siz3 xe ev_const (by omega) xidx xmult) ?_
                  refine JO.py (Py.load scal3 xe xpick xrow) ?_
                  refine JO.py (Py.idxA Tryz.underlying54 siz3 xe ev_const (by omega) xidx xmult) ?_
                  refine JO.py (Py.load scal3 xe xpick xrow) ?_
                  refine JO.py (Py.build bld54 (Pts.cons xe (Pts.cons xe (Pts.cons xe (Pts.cons xe Pts.nil)))) xfl) ?_
                  refine JO.storeW siz54 xe xe (by first | rfl | (simp; done) | assumption | fail) (by first | (simp [Value.oneCell']; done) | assumption | fail) xpick (by first | rfl | (simp; done) | assumption | fail) ?_
                  refine nC (sR ?_)
                  refine oM ?_
                  refine JO.call (Evs.cons xe (Evs.cons ev_const (Evs.cons ev_const Evs.nil))) (afterN_con G S.st 7 10) xpkE ?_
                  rintro _
                  show JO _ _ _ _ _ _ _ ((170, _) :: _) _ (_ :: _)
                  refine oA ?_
                  refine nC (JC.region ?_)
                  refine oM ?_
                  refine oA ?_
                  refine JO.nil (JX.blockN ?_)
                  refine JX.cut ⟨.mat d n2, ⟨by omega, hd⟩, fun d' n' h => by cases h; omega⟩ (by simp only [LzS.next, Sym.n]; exact xag) (by simp only [LzS.next, symEv, evs_cons, evsM_cons, Enc.evs_append, evsM_append, hMd2, hEd2, hkk]; exact xpkE) rfl
            · skip
              rintro ⟨y2, hvy, hdy⟩ base6
              have hvn := hvy.n
              have hnx := LzS.next_ok (b := bs) (by rw [hbl]; exact hS) y2 hvy
              rw [hbl] at hnx
              have hni : (S.next y2).i = S.i + y2.n := by rw [← LzS.at_n]; rfl
              have hnl := hnx.i
              rw [hni] at hnl
              refine JX.code (sR ?_)
              refine oM ?_
              refine JO.py (Py.move ev_const) ?_
              refine nC (JC.block ?_)
              refine JC.loop (ι := Nat) (fun j => j ≤ y2.n) (fun j => (309, .int .i64 j) :: (308, .int .i64 (y2.n : Nat)) :: lzL bb ob bl bc b42 b16 b17 lm lr b24 b75 T5 c nl (S.next y2).st (S.i + j)) (fun j => lzA b42 b16 b17 lm lr b24 b75 T5 (S.next y2).r0 (S.next y2).r1 (S.next y2).r2 (S.next y2).r3 (S.i + j) (Enc.evs M E (symEv c bs S y2)) (evsM M (symEv c bs S y2)) (blk bb (.cells cs Tb fr)) F) (fun j => y2.n - j) 0 (Nat.zero_le _) (by simp only [Nat.add_zero]; exact xag) (by simp only [Nat.add_zero]; exact xpkE) ?_
              rintro j base7 hj
              have hj : j ≤ y2.n := hj
              by_cases hj2 : j < y2.n
              case neg =>
                obtain rfl : j = y2.n := by omega
                have hrn : LzS.start.run (y ++ [y2]) = S.next y2 := by rw [run_snoc, hSd]
                have hev : symsEv c bs LzS.start (y ++ [y2]) = symsEv c bs LzS.start y ++ symEv c bs S y2 := by rw [symsEv_snoc, hSd]
                refine sR ?_
                first | refine oD (Py.lss xe xe) ?_ | refine oU (Py.lss xe xe) ?_ | refine JO.py (Py.lss xe xe) ?_
                refine nC (JC.seq ?_)
                refine cF ?_
                refine JC.exit (JX.exit (JX.exit (JX.blockE (JX.blockN ?_))))
                refine JX.loop (y ++ [y2], S.next y2, evsM M (symEv c bs S y2), Enc.evs M E (symEv c bs S y2)) ⟨validAll_snoc bs y y2 _ hv (by rw [hSd]; exact hvy), hnx, hrn, by rw [hev, evsM_append, hMd], by rw [hev, Enc.evs_append, hMd, hEd], by
                  have := symEv_len c bs S y2 hdy
                  rw [hev, List.length_append]
                  dsimp only
                  rw [hni]
                  omega⟩ (by dsimp only; rw [hni]; omega) (by dsimp only; rw [hni]; exact xag) (by dsimp only; rw [hni]; exact xpkE)
              case pos =>
                refine JC.mapMono (fun v => ∃ a : Nat, v = .int .i64 a ∧ a < S.i + j) (fun v => ∃ a : Nat, v = .int .i64 a ∧ a < S.i + (j + 1)) (fun v ⟨a, e, h⟩ => ⟨a, e, by omega⟩) xpick ?_
                refine sR ?_
                first | refine oD (Py.lss xe xe) ?_ | refine oU (Py.lss xe xe) ?_ | refine JO.py (Py.lss xe xe) ?_
                refine nC (JC.seq ?_)
                refine cT ?_
                refine JC.skip (JX.code (JC.seq (JC.block (JC.seq (sR ?_)))))
                refine oM ?_
                refine JO.py (Py.add xe ev_const wI) ?_
                refine oM ?_
                refine JO.py (Py.lenS Tryz.underlying22 xe) ?_
                first | refine oD (Py.leq xe xe) ?_ | refine oU (Py.leq xe xe) ?_ | refine JO.py (Py.leq xe xe) ?_
                refine nC ?_
                by_cases hj3 : S.i + j + 3 ≤ bl
                case pos =>
                  refine cT ?_
                  refine JC.region ?_
                  refine oM ?_
                  refine oM ?_
                  refine oM ?_
                  refine JO.call (Evs.cons xe (Evs.cons xe Evs.nil)) (key_con G bb ob bl bc cs Tb fr bs hb hbl (by omega) (S.i + j) hj3) xpkE ?_
                  rintro kk
                  show JO _ _ _ _ _ _ _ ((319, _) :: _) _ (_ :: _ :: _)
                  refine oM ?_
                  refine JO.mapup Tryz.underlying55 Tryz.underlying3 xe xe xe ((show (fun v => ∃ a : Nat, v = Value.int .i64 a ∧ a < S.i + (j + 1)) (Value.int .i64 ((S.i + j : Nat) : Int)) from ⟨S.i + j, rfl, by omega⟩)) xpick ?_
                  refine nC (JC.region ?_)
                  refine oM ?_
                  refine JO.py (Py.add xe ev_const wI) ?_
                  refine oA ?_
                  refine JO.nil (JX.blockN (JX.code (JC.region ?_)))
                  refine JO.py (Py.add xe ev_const wI) ?_
                  refine oM ?_
                  refine JO.nil ?_
                  refine JX.loop (j + 1) (by (try dsimp only); omega) (by (try dsimp only); omega) xag xpkE
                case neg =>
                  refine cF ?_
                  refine JC.skip (JX.code (JC.region ?_))
                  refine oM ?_
                  refine JO.py (Py.add xe ev_const wI) ?_
                  refine oA ?_
                  refine JO.nil (JX.blockN (JX.code (JC.region ?_)))
                  refine JO.py (Py.add xe ev_const wI) ?_
                  refine oM ?_
                  refine JO.nil ?_
                  refine JX.loop (j + 1) (by (try dsimp only); omega) (by (try dsimp only); omega) xag xpkE
end Go.Proofs.YtfpepghmbeoanaaGreatDoor
end

section
open Go Go.RowKit
namespace Go.Proofs.YtfpepghmbeoanaaGreatDoor
open Lz
theorem symsEv_len (c : Cfg) {b : List Nat} (hb : b.length ≤ 100000) : ∀ (l : List Sym) (S : LzS), S.Ok b.length → ValidAll b S l → (symsEv c b S l).length + 50 * S.i ≤ 50 * (S.run l).i
  | [], S, _, _ => by simp [symsEv, LzS.run]
  | y :: l, S, hS, hv => by
    have ih := symsEv_len c hb l (S.next y) (LzS.next_ok hS y hv.1) hv.2
    have hi := hS.i
    have h1 : (symEv c b S y).length ≤ 50 := symEv_len c b S y (fun d n h => by
      subst h
      have := hv.1.2.dist.resolve_left (by have := hv.1.1; omega)
      omega)
    have h2 : S.i + 1 ≤ (S.next y).i := by
      cases y with
      | lit => exact Nat.le_refl _
      | rep k n => have := hv.1.2.1; show S.i + 1 ≤ S.i + n; omega
      | mat d n => have := hv.1.1; show S.i + 1 ≤ S.i + n; omega
    simp only [symsEv, List.length_append, LzS.run]
    omega
/-- The coder's bytes are a stream. -/
theorem stream_of (c : Cfg) (hc : c.Ok) (bs : List Nat) (l : List Sym) (hv : ValidAll bs LzS.start l) (hr : (LzS.start.run l).i = bs.length) (hpos : 0 < bs.length) (hlen : bs.length ≤ 3000) (hby : ∀ x ∈ bs, x < 256) :
    ∃ x1 x2 x3 x4 rb, (Enc.evs M0 Enc.start (symsEv c bs LzS.start l)).flush.out = 0 :: x1 :: x2 :: x3 :: x4 :: rb ∧ StreamOk c bs l x1 x2 x3 x4 rb ∧ (∀ x ∈ 0 :: x1 :: x2 :: x3 :: x4 :: rb, x < 256) ∧ rb.length ≤ 900000 := by
  obtain ⟨x1, x2, x3, x4, rb, ho, hb, hn, hd, hl⟩ := stream_ok M0_PMok (symsEv c bs LzS.start l)
  have h1 := symsEv_len c (by omega) l LzS.start (LzS.start_ok _) hv
  rw [ho] at hb
  have hs : LzS.start.i = 0 := rfl
  refine ⟨x1, x2, x3, x4, rb, ho, ⟨hc, hv, hr, hpos, hlen, hby, hb _ (by simp), hb _ (by simp), hb _ (by simp), hb _ (by simp), hn, hd⟩, hb, ?_⟩
  rw [hr] at h1
  omega
theorem agg26 : Aggr Tryz.prog 26 6 := fun _ => ⟨by kernel_rfl, by kernel_rfl⟩
set_option maxRecDepth 100000 in
theorem way_con (G : Gst) (x0 x1 x2 x3 x4 x5 : Nat) (h0 : x0 < 256) (h1 : x1 < 256) (h2 : x2 < 256) (h3 : x3 < 256) (h4 : x4 < 256) (h5 : x5 < 256) :
    Con Tryz.prog G 6 #[.agg #[vu8 x0, vu8 x1, vu8 x2, vu8 x3, vu8 x4, vu8 x5]] [] (fun x : {x : Int × Int × Int × Cfg // x.2.2.2.Ok} => .agg #[.int .i64 x.1.1, .int .i64 x.1.2.1, .int .i64 x.1.2.2.1, .int .i64 x.1.2.2.2.lc, .int .i64 x.1.2.2.2.lp, .int .i64 x.1.2.2.2.pb]) (fun _ => []) := by
  obtain ⟨lc, hlc⟩ : ∃ lc, x3 % 5 = lc := ⟨_, rfl⟩
  have hl4 : lc ≤ 4 := by omega
  obtain ⟨lp, hlp⟩ : ∃ lp, x4 % (5 - lc) = lp := ⟨_, rfl⟩
  have hlp4 : lc + lp ≤ 4 := by have := Nat.mod_lt x4 (show 0 < 5 - lc by omega); omega
  obtain ⟨pb, hpb⟩ : ∃ pb, x5 % 5 = pb := ⟨_, rfl⟩
  have hok : (⟨lc, lp, pb⟩ : Cfg).Ok := ⟨hlp4, by dsimp only; omega⟩
  refine Con.intro Tryz.func6 rfl (by kernel_rfl) Tryz.ntmps6 (Nat.le_of_ble_eq_true rfl) ?_
  intro F
  show JC _ _ _ _ _ _ [(0, _)] _ [_]
  refine sR ?_
  refine JO.boxA xe ?_; intro b1
  refine JO.allocA zer26 ?_; intro b2
  refine nC (sR ?_)
  refine JO.py (Py.fld fld24_3 xe xoff) ?_
  refine JO.py (Py.load scal5 xe xpick xrow) ?_
  refine JO.py (Py.to (Py.rem xe ev_const (by omega) (by omega)) (v' := .int .u8 (lc : Nat)) (vint (by omega))) ?_
  first | refine JO.py (Py.conv cnv5_3 xe wI) ?_ | refine JO.py (Py.conv cnv5_3 xe rfl) ?_
  refine oA ?_
  refine nC (JC.seq ?_)
  refine JC.regionM [(0, true), (1, true), (2, true), (3, true), (4, true), (5, true), (6, true), (7, true), (8, true), (9, true), (10, true), (11, true), (12, true), (13, true), (14, true), (15, true), (16, true), (17, true), (18, true), (19, true), (20, true), (21, true), (22, true), (23, true), (24, true), (25, false)] mixed (by kernel_rfl) ?_
  refine JM.py ao ⟨fun _ => Py.fld fld24_0 xe xoff⟩ ?_
  refine JM.ld ao scal5 xe xpick xrow ?_
  refine JM.py ao ⟨fun _ => Py.rem xe ev_const (by omega) (by omega)⟩ ?_
  first | refine JM.py ao ⟨fun _ => Py.conv cnv5_3 xe wI⟩ ?_ | refine JM.py ao ⟨fun _ => Py.conv cnv5_3 xe rfl⟩ ?_
  refine JM.py ao ⟨fun _ => Py.fld fld24_1 xe xoff⟩ ?_
  refine JM.ld ao scal5 xe xpick xrow ?_
  first | refine JM.py ao ⟨fun _ => Py.conv cnv5_3 xe wI⟩ ?_ | refine JM.py ao ⟨fun _ => Py.conv cnv5_3 xe rfl⟩ ?_
  refine JM.py ao ⟨fun _ => Py.rem xe ev_const (by omega) (by omega)⟩ ?_
  refine JM.py ao ⟨fun _ => Py.add ev_const xe wI⟩ ?_
  refine JM.py ao ⟨fun _ => Py.fld fld24_2 xe xoff⟩ ?_
  refine JM.ld ao scal5 xe xpick xrow ?_
  refine JM.py ao ⟨fun _ => Py.rem xe ev_const (by omega) (by omega)⟩ ?_
  first | refine JM.py ao ⟨fun _ => Py.conv cnv5_3 xe wI⟩ ?_ | refine JM.py ao ⟨fun _ => Py.conv cnv5_3 xe rfl⟩ ?_
  refine JM.py ao ⟨fun _ => Py.move xe⟩ ?_
  refine JM.py ao ⟨fun _ => Py.fld fld24_4 xe xoff⟩ ?_
  refine JM.ld ao scal5 xe xpick xrow ?_
  first | refine JM.py ao ⟨fun _ => Py.conv cnv5_3 xe wI⟩ ?_ | refine JM.py ao ⟨fun _ => Py.conv cnv5_3 xe rfl⟩ ?_
  refine JM.py ao ⟨fun _ => Py.move xe⟩ ?_
  refine JM.py ao ⟨fun _ => Py.sub (c := ((5 - lc : Nat) : Int)) ev_const xe (by rw [w_i64 (by omega)]; omega)⟩ ?_
  refine JM.py ao ⟨fun _ => Py.to (Py.rem xe xe (by omega) (by omega)) (v' := .int .i64 (lp : Nat)) (vint (by rw [← hlp]; simp))⟩ ?_
  refine JM.py ao ⟨fun _ => Py.fld fld24_5 xe xoff⟩ ?_
  refine JM.ld ao scal5 xe xpick xrow ?_
  refine JM.py ao ⟨fun _ => Py.to (Py.rem xe ev_const (by omega) (by omega)) (v' := .int .u8 (pb : Nat)) (vint (by omega))⟩ ?_
  first | refine JM.py ao ⟨fun _ => Py.conv cnv5_3 xe wI⟩ ?_ | refine JM.py ao ⟨fun _ => Py.conv cnv5_3 xe rfl⟩ ?_
  refine JM.py ao ⟨fun _ => Py.build bld26 (Pts.cons xe (Pts.cons xe (Pts.cons xe (Pts.cons xe (Pts.cons xe (Pts.cons xe Pts.nil)))))) xfl⟩ ?_
  refine JM.eff ao ?_
  refine JO.storeW siz26 xe xe (by first | rfl | (simp; done) | assumption | fail) (by first | (simp [Value.oneCell']; done) | assumption | fail) xpick (by first | rfl | (simp; done) | assumption | fail) ?_
  refine JO.nil ?_
  refine JX.mix (Kept.drop (Forced.step (by kernel_rfl)) (Kept.drop (Forced.step (by kernel_rfl)) (Kept.drop (Forced.step (by kernel_rfl)) (Kept.drop (Forced.step (by kernel_rfl)) (Kept.drop (Forced.step (by kernel_rfl)) Kept.nil))))) ?_
  refine JM.nil (JX.code (JC.ret ?_))
  refine JX.endC1 (vs := #[.int .i64 ((x0 : Int) % 6), .int .i64 (1 + (x1 : Int) % 255), .int .i64 ((x2 : Int) % 3), .int .i64 lc, .int .i64 lp, .int .i64 pb]) (Or.inl rfl) (⟨((x0 : Int) % 6, 1 + (x1 : Int) % 255, (x2 : Int) % 3, ⟨lc, lp, pb⟩), hok⟩) Tryz.results6 xe agg26 xpick (Nat.le_of_ble_eq_true rfl) (by rfl) rfl xpkE
/-- A text that is too long, or empty: nothing is asked. -/
theorem law3_out (G : Gst) (ba : Option Addr) (bl bc : Nat) (wv : Array Value) (h : bl = 0 ∨ 3000 < bl) (hb : bl < 9223372036854775808) :
    Con Tryz.prog G 3 #[.slice ba bl bc, .agg wv] [] (fun _ : Unit => .bool true) (fun _ => []) := by
  refine Con.intro Tryz.func3 rfl (by kernel_rfl) Tryz.ntmps3 (Nat.le_of_ble_eq_true rfl) ?_
  intro F
  show JC _ _ _ _ _ _ [(0, _), (1, _)] _ [_]
  refine sR ?_
  refine JO.boxA xe ?_; intro b3
  refine oC ?_
  refine nC (JC.seq (sR ?_))
  refine oM ?_
  refine JO.py (Py.lenS Tryz.underlying22 xe) ?_
  first | refine oD (Py.gtr xe ev_const) ?_ | refine oU (Py.gtr xe ev_const) ?_ | refine JO.py (Py.gtr xe ev_const) ?_
  refine nC ?_
  by_cases h1 : 2147483647 < bl
  · skip
    refine cT ?_
    refine sR ?_
    refine oC ?_
    refine nC (JC.ret (JX.ret ?_))
    refine JX.end1 (Or.inl rfl) (()) Tryz.results3 ((xe).trans (by first | exact xval | (dsimp only; exact xval))) xpkE
  · skip
    refine cF ?_
    by_cases h0 : bl = 0
    · skip
      refine JC.skip (JX.code (JC.seq (sR ?_)))
      refine oM ?_
      refine JO.py (Py.lenS Tryz.underlying22 xe) ?_
      first | refine oD (Py.eql xe ev_const) ?_ | refine oU (Py.eql xe ev_const) ?_ | refine JO.py (Py.eql xe ev_const) ?_
      refine oM ?_
      first | (refine gF ?_; (refine oM ?_)) | refine kT ?_
      first | (refine gF ?_; (refine JO.py (Py.lenS Tryz.underlying22 xe) ?_)) | refine kT ?_
      first | (refine gF ?_; (first | refine oD (Py.gtr xe ev_const) ?_ | refine oU (Py.gtr xe ev_const) ?_ | refine JO.py (Py.gtr xe ev_const) ?_)) | refine kT ?_
      first | refine JO.py (Py.pickT xe ev_const) ?_ | refine JO.py (Py.pickF xe xe) ?_
      refine nC ?_
      refine cT ?_
      refine sR ?_
      refine oC ?_
      refine nC (JC.ret (JX.ret ?_))
      refine JX.end1 (Or.inl rfl) (()) Tryz.results3 ((xe).trans (by first | exact xval | (dsimp only; exact xval))) xpkE
    · skip
      have h2 : 3000 < bl := by omega
      refine JC.skip (JX.code (JC.seq (sR ?_)))
      refine oM ?_
      refine JO.py (Py.lenS Tryz.underlying22 xe) ?_
      first | refine oD (Py.eql xe ev_const) ?_ | refine oU (Py.eql xe ev_const) ?_ | refine JO.py (Py.eql xe ev_const) ?_
      refine oM ?_
      first | (refine gF ?_; (refine oM ?_)) | refine kT ?_
      first | (refine gF ?_; (refine JO.py (Py.lenS Tryz.underlying22 xe) ?_)) | refine kT ?_
      first | (refine gF ?_; (first | refine oD (Py.gtr xe ev_const) ?_ | refine oU (Py.gtr xe ev_const) ?_ | refine JO.py (Py.gtr xe ev_const) ?_)) | refine kT ?_
      first | refine JO.py (Py.pickT xe ev_const) ?_ | refine JO.py (Py.pickF xe xe) ?_
      refine nC ?_
      refine cT ?_
      refine sR ?_
      refine oC ?_
      refine nC (JC.ret (JX.ret ?_))
      refine JX.end1 (Or.inl rfl) (()) Tryz.results3 ((xe).trans (by first | exact xval | (dsimp only; exact xval))) xpkE
set_option maxRecDepth 100000 in
set_option maxHeartbeats 4000000 in
theorem law3_in (G : Gst) (bb ob bl bc : Nat) (cs : Array Value) (Tb : TypeId) (fr : Nat × Nat) (bs : List Nat) (hb : RdOk cs ob bs) (hbl : bs.length = bl) (h1 : 1 ≤ bl) (h2 : bl ≤ 3000) (x0 x1 x2 x3 x4 x5 : Nat) (g0 : x0 < 256) (g1 : x1 < 256) (g2 : x2 < 256) (g3 : x3 < 256) (g4 : x4 < 256) (g5 : x5 < 256) (ea : Addr) (eT : TypeId) (ef : Nat × Nat) :
    Con Tryz.prog G 3 #[.slice (some ⟨bb, ob, none⟩) bl bc, .agg #[vu8 x0, vu8 x1, vu8 x2, vu8 x3, vu8 x4, vu8 x5]] [blk bb (.cells cs Tb fr), EofA ea eT ef] (fun _ : Unit => .bool true) (fun _ => [blk bb (.cells cs Tb fr), EofA ea eT ef]) := by
  have hby := hb.lt
  have hc1 : (⟨3, 0, 2⟩ : Cfg).Ok := ⟨by decide, by decide⟩
  have hrb : ∀ j v, (u8s bs)[j]? = some v → cs[ob + j]? = some v := by
    intro j v hv
    have hj : j < bs.length := by have := (List.getElem?_eq_some_iff.1 hv).1; rwa [u8s_len] at this
    rw [(hb j hj).1]
    simp [u8s, hj] at hv ⊢
    exact hv
  have hrd7 : RdOk #[.int .u8 7] 0 [7] := by
    intro i hi
    obtain rfl : i = 0 := by simpa using hi
    exact ⟨rfl, by decide⟩
  refine Con.intro Tryz.func3 rfl (by kernel_rfl) Tryz.ntmps3 (Nat.le_of_ble_eq_true rfl) ?_
  intro F
  show JC _ _ _ _ _ _ [(0, _), (1, _)] _ [_, _, _]
  refine sR ?_
  refine JO.boxA xe ?_; intro b3
  refine oC ?_
  refine nC (JC.seq (sR ?_))
  refine oM ?_
  refine JO.py (Py.lenS Tryz.underlying22 xe) ?_
  first | refine oD (Py.gtr xe ev_const) ?_ | refine oU (Py.gtr xe ev_const) ?_ | refine JO.py (Py.gtr xe ev_const) ?_
  refine nC ?_
  refine cF ?_
  refine JC.skip (JX.code (JC.seq (sR ?_)))
  refine oM ?_
  refine JO.py (Py.lenS Tryz.underlying22 xe) ?_
  first | refine oD (Py.eql xe ev_const) ?_ | refine oU (Py.eql xe ev_const) ?_ | refine JO.py (Py.eql xe ev_const) ?_
  refine oM ?_
  first | (refine gF ?_; (refine oM ?_)) | refine kT ?_
  first | (refine gF ?_; (refine JO.py (Py.lenS Tryz.underlying22 xe) ?_)) | refine kT ?_
  first | (refine gF ?_; (first | refine oD (Py.gtr xe ev_const) ?_ | refine oU (Py.gtr xe ev_const) ?_ | refine JO.py (Py.gtr xe ev_const) ?_)) | refine kT ?_
  first | refine JO.py (Py.pickT xe ev_const) ?_ | refine JO.py (Py.pickF xe xe) ?_
  refine nC ?_
  refine cF ?_
  refine JC.skip (JX.code (sR ?_))
  refine JO.py (Py.loadA (vs := #[vu8 x0, vu8 x1, vu8 x2, vu8 x3, vu8 x4, vu8 x5]) agg24 xe xpick (by first | exact Nat.le_of_ble_eq_true rfl | assumption | (simp; omega) | fail) (by rfl)) ?_
  refine JO.call (Evs.cons xe Evs.nil) (way_con G x0 x1 x2 x3 x4 x5 g0 g1 g2 g3 g4 g5) xpkE ?_
  rintro ⟨⟨wf, wd, ws, c⟩, hc⟩
  show JO _ _ _ _ _ _ _ ((22, _) :: _) _ (_ :: _)
  dsimp only at hc ⊢
  refine JO.allocA zer26 ?_; intro b5
  refine JO.storeW siz26 xe xe (by first | rfl | (simp; done) | assumption | fail) (by first | (simp [Value.oneCell']; done) | assumption | fail) xpick (by first | rfl | (simp; done) | assumption | fail) ?_
  refine nC (JC.seq ?_)
  refine JC.regionM [(0, true), (1, true), (2, true), (3, true), (4, true), (5, true), (7, true), (8, true), (9, true), (10, true), (11, true), (12, true), (13, true), (14, true), (15, true), (6, false), (16, false), (17, false), (18, true), (19, true), (20, true), (21, true), (22, true)] mixed (by kernel_rfl) ?_
  refine JM.py ao ⟨fun _ => Py.fld fld26_3 xe xoff⟩ ?_
  refine JM.ld ao scal3 xe xpick xrow ?_
  refine JM.py ao ⟨fun _ => Py.fld fld26_4 xe xoff⟩ ?_
  refine JM.ld ao scal3 xe xpick xrow ?_
  refine JM.py ao ⟨fun _ => Py.fld fld26_5 xe xoff⟩ ?_
  refine JM.ld ao scal3 xe xpick xrow ?_
  refine JM.py ao ⟨fun _ => Py.move xe⟩ ?_
  refine JM.py ao ⟨fun _ => Py.lenS Tryz.underlying22 xe⟩ ?_
  refine JM.py ao ⟨fun _ => Py.move xe⟩ ?_
  refine JM.py ao ⟨fun _ => Py.fld fld26_3 xe xoff⟩ ?_
  refine JM.ld ao scal3 xe xpick xrow ?_
  refine JM.py ao ⟨fun _ => Py.fld fld26_4 xe xoff⟩ ?_
  refine JM.ld ao scal3 xe xpick xrow ?_
  refine JM.py ao ⟨fun _ => Py.fld fld26_5 xe xoff⟩ ?_
  refine JM.ld ao scal3 xe xpick xrow ?_
  refine JM.eff ao ?_
  refine JO.call (Evs.cons xe (Evs.cons xe (Evs.cons xe (Evs.cons ev_const Evs.nil)))) (propB_con G c hc 65536 (by decide)) xpkE ?_
  rintro pv
  show JO _ _ _ _ _ _ _ ((30, _) :: _) _ (_ :: _ :: _)
  refine JO.nil ?_
  refine JX.mix (Kept.keep (fun _ hw => hw.cell xpick xrow) (Kept.keep (fun _ hw => hw.cell xpick xrow) (Kept.keep (fun _ hw => hw.cell xpick xrow) (Kept.drop (Forced.step (by kernel_rfl)) (Kept.drop (Forced.step (by kernel_rfl)) (Kept.drop (Forced.step (by kernel_rfl)) Kept.nil)))))) ?_
  refine JM.eff ao ?_
  refine JO.call (Evs.cons xe (Evs.cons xe (Evs.cons xe (Evs.cons xe Evs.nil)))) (lzma_con G bb ob bl bc cs Tb fr bs hb hbl (by omega) c hc) xpkE ?_
  rintro ⟨⟨lv, l⟩, hv, hr⟩
  show JO _ _ _ _ _ _ _ ((40, _) :: _) _ (_ :: _ :: _ :: _)
  dsimp only at hv hr ⊢
  obtain ⟨y1, y2, y3, y4, rb, ho, hs, hx, hxl⟩ := stream_of c hc bs l hv (by rw [hr, hbl]) (by omega) (by omega) hby
  rw [ho]
  refine JO.nil ?_
  refine JX.mix (Kept.drop (Forced.step (by kernel_rfl)) (Kept.drop (Forced.step (by kernel_rfl)) (Kept.drop (Forced.step (by kernel_rfl)) Kept.nil))) ?_
  refine JM.eff ao ?_
  refine JO.call (Evs.cons xe (Evs.cons xe (Evs.cons xe Evs.nil))) (implLz_con G ea eT ef pv lv c bs l y1 y2 y3 y4 rb hs hx hxl bl hbl) xpkE ?_
  rintro gv
  show JO _ _ _ _ _ _ _ ((41, _) :: _) _ (_ :: _ :: _ :: _)
  refine JO.nil ?_
  refine JX.mix Kept.nil ?_
  refine JM.py ao ⟨fun _ => Py.move xe⟩ ?_
  refine JM.py ao ⟨fun _ => Py.extrI xe xix⟩ ?_
  refine JM.py ao ⟨fun _ => Py.extrI xe xix⟩ ?_
  refine JM.py ao ⟨fun _ => Py.assign xe⟩ ?_
  refine JM.py ao ⟨fun _ => Py.assign xe⟩ ?_
  refine JM.nil (JX.code (sR ?_))
  refine JO.call (Evs.cons ev_const (Evs.cons ev_const (Evs.cons ev_const (Evs.cons ev_const Evs.nil)))) (propB_con G ⟨3, 0, 2⟩ hc1 65536 (by decide)) xpkE ?_
  rintro pv2
  show JO _ _ _ _ _ _ _ ((45, _) :: _) _ (_ :: _ :: _)
  refine JO.bslice Tryz.underlying22 elm5 (Evs.cons ev_const Evs.nil) rfl rfl (by first | (simp [Value.oneCell']; done) | (simp only [List.mem_cons, List.not_mem_nil, or_false, forall_eq]; assumption) | fail) (by decide) ?_; intro b46
  refine JO.call (Evs.cons xe (Evs.cons ev_const (Evs.cons ev_const (Evs.cons ev_const Evs.nil)))) (lzma_con G b46 0 1 1 #[.int .u8 7] 5 (0, 0) [7] hrd7 rfl (by decide) ⟨3, 0, 2⟩ hc1) xpkE ?_
  rintro ⟨⟨lv2, l2⟩, hv2, hr2⟩
  show JO _ _ _ _ _ _ _ ((47, _) :: _) _ (_ :: _ :: _ :: _)
  dsimp only at hv2 hr2 ⊢
  obtain ⟨z1, z2, z3, z4, rb2, ho2, hs2, hx2, hxl2⟩ := stream_of ⟨3, 0, 2⟩ hc1 [7] l2 hv2 hr2 (by decide) (by decide) (by decide)
  rw [ho2]
  refine JO.call (Evs.cons xe (Evs.cons ev_const (Evs.cons xe Evs.nil))) (implLz_con G ea eT ef pv2 lv2 ⟨3, 0, 2⟩ [7] l2 z1 z2 z3 z4 rb2 hs2 hx2 hxl2 1 rfl) xpkE ?_
  rintro ov
  show JO _ _ _ _ _ _ _ ((48, _) :: _) _ (_ :: _ :: _ :: _)
  refine oM ?_
  refine JO.py (Py.extrI xe xix) ?_
  refine JO.py (Py.extrI xe xix) ?_
  refine oA ?_
  refine oA ?_
  refine nC (sR ?_)
  refine oM ?_
  refine oM ?_
  first | (refine gT ?_; (refine oM ?_)) | refine kF ?_
  refine JO.rowV (e := 5) (v := ov) (xs := u8s [7]) xpick ?_
  rintro oa oc hov -
  rw [show (u8s [7]).length = 1 from rfl] at hov
  subst hov
  refine JO.unrow (e := 5) (v := gv) (xs := u8s bs) xpick (by intro h; have := congrArg List.length h; rw [u8s_len, hbl] at this; exact absurd this (by show ¬ bl = 0; omega)) ?_
  rintro gb gc gcur rfl hgr
  have hgg : ∀ j v, (u8s bs)[j]? = some v → gcur[0 + j]? = some v := fun j v h => by rw [Nat.zero_add]; exact hgr.get h
  rw [u8s_len, hbl]
  refine gT ?_
  refine JO.py (Py.str Tryz.underlying22 Tryz.underlying5 Tryz.underlying9 xe hbl hby (Reads.cel xpick hgg)) ?_
  first | (refine gT ?_; (refine oM ?_)) | refine kF ?_
  refine gT ?_
  refine JO.py (Py.str Tryz.underlying22 Tryz.underlying5 Tryz.underlying9 xe hbl hby (Reads.cel xpick hrb)) ?_
  refine gT ?_
  refine JO.py (Py.streq (c := true) xe xe ((str_beq hby hby).trans (decide_eq_true rfl))) ?_
  first | refine JO.py (Py.pickT xe xe) ?_ | refine JO.py (Py.pickF xe ev_const) ?_
  refine oM ?_
  first | (refine gT ?_; (refine oM ?_)) | refine kF ?_
  first | (refine gT ?_; (refine JO.py (Py.lenS Tryz.underlying22 xe) ?_)) | refine kF ?_
  first | (refine gT ?_; (first | refine oD (Py.eql xe ev_const) ?_ | refine oU (Py.eql xe ev_const) ?_ | refine JO.py (Py.eql xe ev_const) ?_)) | refine kF ?_
  first | refine JO.py (Py.pickT xe xe) ?_ | refine JO.py (Py.pickF xe ev_const) ?_
  refine oA ?_
  refine nC (JC.ret ?_)
  refine JX.end1 (Or.inl rfl) (()) Tryz.results3 ((xe).trans (by first | exact xval | (dsimp only; exact xval))) xpkE
end Go.Proofs.YtfpepghmbeoanaaGreatDoor
end
