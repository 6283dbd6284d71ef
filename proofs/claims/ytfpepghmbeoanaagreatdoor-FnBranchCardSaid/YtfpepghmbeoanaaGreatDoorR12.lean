/-
Arguments, opened.
FnBranch's row, lifted.
-/
import Derived.Test.YtfpepghmbeoanaaGreatDoorR11
import Derived.Test.YtfpepghmbeoanaaGreatDoorR10
set_option linter.unusedSimpArgs false
set_option linter.unusedVariables false
section
open Go Go.RowKit
namespace Go.Proofs.YtfpepghmbeoanaaGreatDoor
open Go.ChangeShapes Go.WideShapes
/-! ### Arguments opened -/
theorem tz_cells5 : Tryz.prog.cellsOf 5 = 1 := by kernel_rfl
theorem tz_cells24 : Tryz.prog.cellsOf 24 = 6 := by kernel_rfl
section
variable {H : Type} {enc : TypeId × Value → H} {W : World} {base : Nat} {sp : Nat → Bool}
theorem u8_of_trod {fuel : Nat} {cs : List Value} {c : Value} {y : DataW H × List MemPlace} (h : DataW.trod enc Tryz.prog W base sp true fuel 5 cs = some y) (hc : cs = [c]) : ∃ x : Nat, x < 256 ∧ c = vu8 x := by
  obtain ⟨n, hn, _, hw⟩ := DataW.trod_int Tryz.underlying5 h
  rw [hc] at hn
  have hb := bounds_u8 hw
  refine ⟨n.toNat, by omega, ?_⟩
  have : c = .int .u8 n := by simpa using hn
  rw [this]
  exact vint (by omega)
set_option maxRecDepth 100000 in
theorem open_way {v : Value} {d : DataW H} {p : List MemPlace} (hval : Value.okWide Tryz.prog W .any base 24 v) {b0 : Nat} (h : DataW.Trod enc Tryz.prog W b0 sp true 24 v d p) :
    ∃ x0 x1 x2 x3 x4 x5 : Nat, v = .agg #[vu8 x0, vu8 x1, vu8 x2, vu8 x3, vu8 x4, vu8 x5] ∧ x0 < 256 ∧ x1 < 256 ∧ x2 < 256 ∧ x3 < 256 ∧ x4 < 256 ∧ x5 < 256 := by
  obtain ⟨cs, rfl, hsz⟩ := okWide_struct Tryz.underlying24 hval
  rw [tz_cells24] at hsz
  obtain ⟨l⟩ := cs
  obtain ⟨fuel, hf⟩ := h
  obtain ⟨xs, n, _, _, hl, hlen, hfs⟩ := DataW.trod_struct Tryz.underlying24 hf
  match l, hsz with
  | [c0, c1, c2, c3, c4, c5], _ =>
    match xs, hlen with
    | [y0, y1, y2, y3, y4, y5], _ =>
      obtain ⟨x0, h0, rfl⟩ := u8_of_trod (c := c0) (hfs 0 _ rfl) (by simp [Value.cells, tz_cells5])
      obtain ⟨x1, h1, rfl⟩ := u8_of_trod (c := c1) (hfs 1 _ rfl) (by simp [Value.cells, tz_cells5])
      obtain ⟨x2, h2, rfl⟩ := u8_of_trod (c := c2) (hfs 2 _ rfl) (by simp [Value.cells, tz_cells5])
      obtain ⟨x3, h3, rfl⟩ := u8_of_trod (c := c3) (hfs 3 _ rfl) (by simp [Value.cells, tz_cells5])
      obtain ⟨x4, h4, rfl⟩ := u8_of_trod (c := c4) (hfs 4 _ rfl) (by simp [Value.cells, tz_cells5])
      obtain ⟨x5, h5, rfl⟩ := u8_of_trod (c := c5) (hfs 5 _ rfl) (by simp [Value.cells, tz_cells5])
      exact ⟨x0, x1, x2, x3, x4, x5, rfl, h0, h1, h2, h3, h4, h5⟩
theorem heap_of_cell {b o : Nat} {v : Value} (h : W.cell? ⟨b, o, none⟩ = some v) : ∃ cs T fr, W.heap[b]? = some (.cells cs T fr) ∧ cs[o]? = some v := by
  unfold World.cell? at h
  cases hb : W.heap[b]? with
  | none => simp [hb] at h
  | some x =>
    cases x with
    | cells cs T fr => exact ⟨cs, T, fr, rfl, by simpa [hb] using h⟩
    | _ => simp [hb] at h
set_option maxRecDepth 100000 in
/-- A text: nothing is known of it beyond its length, or its cells are bytes. -/
theorem open_text {v : Value} {d : DataW H} {p : List MemPlace} (hval : Value.okWide Tryz.prog W .any base 22 v) {b0 : Nat} (h : DataW.Trod enc Tryz.prog W b0 sp true 22 v d p) :
    v = .slice none 0 0 ∨ (∃ a c, v = .slice (some a) 0 c) ∨ ∃ (b o len cap : Nat) (bs : List Nat) (cs : Array Value) (T : TypeId) (fr : Nat × Nat), v = .slice (some ⟨b, o, none⟩) len cap ∧ len < 9223372036854775808 ∧ 0 < len ∧ bs.length = len ∧ W.heap[b]? = some (.cells cs T fr) ∧
      ∀ i, i < bs.length → cs[o + i]? = some (vu8 (bs.getD i 0)) ∧ bs.getD i 0 < 256 := by
  obtain ⟨a0, len0, cap0, rfl⟩ := okWide_slice Tryz.underlying22 hval
  obtain ⟨fuel, hf⟩ := h
  rcases open_ints Tryz.underlying22 Tryz.underlying5 tz_cells5 hf with ⟨hcs, _⟩ | ⟨a, len, cap, zs, hcs, _, hlc, hcm, hzl, _, hcell, hwf⟩
  · left
    simpa [Value.cells] using hcs
  · right
    have he : Value.slice a0 len0 cap0 = .slice (some a) len cap := by simpa [Value.cells] using hcs
    rw [he]
    rcases Nat.eq_zero_or_pos len with h0 | hpos
    · left; subst h0; exact ⟨a, cap, rfl⟩
    right
    have hzlen : len ≤ zs.length := by rw [hzl]; split <;> omega
    obtain ⟨b, o, rfl, hcell2⟩ := ints_at hcell (by omega)
    obtain ⟨cs, T, fr, hb, _⟩ := heap_of_cell (hcell2 0 (by omega))
    have hm : cap ≤ 9223372036854775807 := by unfold maxLen at hcm; omega
    refine ⟨b, o, len, cap, (zs.take len).map Int.toNat, cs, T, fr, rfl, by omega, hpos, by simp; omega, hb, ?_⟩
    intro i hi
    have hi' : i < len := by simp at hi; omega
    have hiz : i < zs.length := by omega
    have hw : (Lit.int .u8 (zs.getD i 0)).wf = true := by
      rw [List.getD_eq_getElem?_getD, List.getElem?_eq_getElem hiz]
      exact hwf _ (List.getElem_mem hiz)
    have hbd := bounds_u8 hw
    have hg : ((zs.take len).map Int.toNat).getD i 0 = (zs.getD i 0).toNat := by
      simp [List.getD_eq_getElem?_getD, List.getElem?_take, hi', hiz]
    rw [hg]
    obtain ⟨cs2, T2, fr2, hb2, hc2⟩ := heap_of_cell (hcell2 i hiz)
    rw [hb] at hb2
    obtain ⟨rfl, rfl, rfl⟩ : cs = cs2 ∧ T = T2 ∧ fr = fr2 := by simpa using hb2
    exact ⟨by rw [hc2]; exact congrArg some (vint (by omega)), by omega⟩
end
end Go.Proofs.YtfpepghmbeoanaaGreatDoor
end

section
open Go Go.RowKit
namespace Go.Proofs.YtfpepghmbeoanaaGreatDoor
open Go.ChangeShapes Go.WideShapes
theorem tz_alg : Tryz.prog.globalNamed "loop.example/pub-g03247/pub/sevenzip.errAlgorithm" = some 0 := by kernel_rfl
theorem tz_algT : (Tryz.prog.globals[0]?).map (·.type) = some 70 := by kernel_rfl
/-- A block that is always there. -/
theorem alg_of_laid {W : World} (h : laidMet Tryz.prog Rows.fnBranchRow.laid W) : ∃ (cs : Array Value) (T : TypeId) (fr : Nat × Nat) (t : TypeId) (u : Value), W.heap[0]? = some (.cells cs T fr) ∧ cs = #[.iface t u] := by
  obtain ⟨a, s, hv, _⟩ := laid_sentinel h.tail.tail.tail.tail.tail.tail.tail.tail.tail.tail.tail.tail.tail.tail.tail.tail.tail.tail tz_alg tz_algT Tryz.underlying70 tz_row215 Tryz.underlying215 Tryz.underlying217 rfl rfl Tryz.underlying9 tz_cells217 tz_cells9
  unfold World.var? at hv
  rw [tz_alg] at hv
  simp only [Option.bind_some] at hv
  split at hv
  · rename_i cs T fr he
    obtain rfl := Option.some.inj hv
    exact ⟨_, T, fr, _, _, he, rfl⟩
  · cases hv
section
variable {H : Type} {enc : TypeId × Value → H} {W : World} {base : Nat}
set_option maxRecDepth 100000 in
theorem open_text2 {v : Value} {d : DataW H} {p : List MemPlace} (hval : Value.okWide Tryz.prog W .any base 22 v) {b0 : Nat} (h : DataW.Trod enc Tryz.prog W b0 (fun _ => true) true 22 v d p) :
    ∃ (ba : Option Addr) (len cap : Nat), v = .slice ba len cap ∧ len ≤ cap ∧ cap < 9223372036854775808 ∧ (ba = none → cap = 0) ∧ (len = 0 ∨ ∃ (b o : Nat) (bs : List Nat) (cs : Array Value) (T : TypeId) (fr : Nat × Nat), ba = some ⟨b, o, none⟩ ∧ bs.length = len ∧ W.heap[b]? = some (.cells cs T fr) ∧
      ∀ i, i < bs.length → cs[o + i]? = some (vu8 (bs.getD i 0)) ∧ bs.getD i 0 < 256) := by
  obtain ⟨a0, len0, cap0, rfl⟩ := okWide_slice Tryz.underlying22 hval
  obtain ⟨fuel, hf⟩ := h
  rcases open_ints Tryz.underlying22 Tryz.underlying5 tz_cells5 hf with ⟨hcs, _⟩ | ⟨a, len, cap, zs, hcs, _, hlc, hcm, hzl, _, hcell, hwf⟩
  · have he : Value.slice a0 len0 cap0 = .slice none 0 0 := by simpa [Value.cells] using hcs
    exact ⟨none, 0, 0, he, Nat.le_refl _, by decide, fun _ => rfl, .inl rfl⟩
  · have he : Value.slice a0 len0 cap0 = .slice (some a) len cap := by simpa [Value.cells] using hcs
    have hm : cap ≤ 9223372036854775807 := by unfold maxLen at hcm; omega
    refine ⟨some a, len, cap, he, hlc, by omega, fun h => (by cases h), ?_⟩
    rcases Nat.eq_zero_or_pos len with h0 | hpos
    · exact .inl h0
    right
    have hzlen : len ≤ zs.length := by rw [hzl]; split <;> omega
    obtain ⟨b, o, rfl, hcell2⟩ := ints_at hcell (by omega)
    obtain ⟨cs, T, fr, hb, _⟩ := heap_of_cell (hcell2 0 (by omega))
    refine ⟨b, o, (zs.take len).map Int.toNat, cs, T, fr, rfl, by simp; omega, hb, ?_⟩
    intro i hi
    have hi' : i < len := by simp at hi; omega
    have hiz : i < zs.length := by omega
    have hw : (Lit.int .u8 (zs.getD i 0)).wf = true := by
      rw [List.getD_eq_getElem?_getD, List.getElem?_eq_getElem hiz]
      exact hwf _ (List.getElem_mem hiz)
    have hbd := bounds_u8 hw
    have hg : ((zs.take len).map Int.toNat).getD i 0 = (zs.getD i 0).toNat := by
      simp [List.getD_eq_getElem?_getD, List.getElem?_take, hi', hiz]
    rw [hg]
    obtain ⟨cs2, T2, fr2, hb2, hc2⟩ := heap_of_cell (hcell2 i hiz)
    rw [hb] at hb2
    obtain ⟨rfl, rfl, rfl⟩ : cs = cs2 ∧ T = T2 ∧ fr = fr2 := by simpa using hb2
    exact ⟨by rw [hc2]; exact congrArg some (vint (by omega)), by omega⟩
end
theorem ne_one {W : World} {b o : Nat} {cs : Array Value} {T : TypeId} {fr : Nat × Nat} {v : Value} {a : Addr} {T1 : TypeId} {fr1 : Nat × Nat} (hb : W.heap[b]? = some (.cells cs T fr)) (he : W.heap[1]? = some (.cells #[.iface 215 (.pointer (some a))] T1 fr1)) (hc : cs[o]? = some v) (hv : ∀ t u, v ≠ .iface t u) : b ≠ 1 := by
  rintro rfl
  rw [hb] at he
  have hcs : cs = #[.iface 215 (.pointer (some a))] := by simpa using (Obj.cells.inj (Option.some.inj he)).1
  rw [hcs] at hc
  rcases Nat.eq_zero_or_pos o with h | h
  · subst h
    simp at hc
    exact hv _ _ hc.symm
  · have h2 : (#[Value.iface 215 (.pointer (some a))] : Array Value)[o]? = none := Array.getElem?_eq_none (by simp; omega)
    rw [h2] at hc; cases hc
theorem fnBranch_params : Tryz.f5.params = #[5, 22] := rfl
/-- The law, called where the blocks are known. -/
theorem law5_calls {W : World} (kd : Nat) (hkd : kd < 256) (bb ob bl bc : Nat) (ba : Option Addr) (hba : 0 < bl → ba = some ⟨bb, ob, none⟩ ∧ bl ≤ bc) (cs : Array Value) (Tb : TypeId) (fr : Nat × Nat) (bs : List Nat) (hb : RdOk cs ob bs) (hbl : bs.length = bl) (h2 : bl ≤ 3000) (hb0 : ba = none → bc = 0)
    (hbb : W.heap[bb]? = some (.cells cs Tb fr)) (hb1 : bb ≠ 1) (a : Addr) (T1 : TypeId) (fr1 : Nat × Nat) (he : W.heap[1]? = some (.cells #[.iface 215 (.pointer (some a))] T1 fr1)) :
    Calls Tryz.prog 5 #[vu8 kd, .slice ba bl bc] W fun e W' => e = .returned (.bool true) ∧ Below W.heap.size W W' := by
  refine ((law5_in (gOf W) kd hkd bb ob bl bc ba hba cs Tb fr bs hb hbl h2 (fun _ => hb0) a T1 fr1).2 (RestA W [bb, 1]) W (sat_two hbb he hb1)).mono ?_
  rintro e W' ⟨_, rfl, hs⟩
  exact ⟨rfl, below_two hbb he hs⟩
set_option maxRecDepth 100000 in
theorem fnBranch_calls {W : World} {H : Type} {enc : TypeId × Value → H} {base : Nat} {v0 v1 : Value} {d0 d1 : DataW H} {p0 p1 : List MemPlace} (hL : laidMet Tryz.prog Rows.fnBranchRow.laid W)
    (k0 : Value.okWide Tryz.prog W .any base 5 v0) (k1 : Value.okWide Tryz.prog W .any base 22 v1)
    (h0 : DataW.Trod enc Tryz.prog W 0 (fun _ => true) true 5 v0 d0 p0) (h1 : DataW.Trod enc Tryz.prog W 0 (fun _ => true) true 22 v1 d1 p1) :
    Calls Tryz.prog 5 #[v0, v1] W fun e W' => e = .returned (.bool true) ∧ Below W.heap.size W W' := by
  obtain ⟨n, rfl, _, _, hwn⟩ := open_int Tryz.underlying5 k0 h0
  have hbn := bounds_u8 hwn
  obtain ⟨kd, rfl⟩ : ∃ kd : Nat, n = (kd : Int) := ⟨n.toNat, by omega⟩
  obtain ⟨a, T1, fr1, he⟩ := eof_of_laid hL
  obtain ⟨csA, TA, frA, tA, uA, hA, hA2⟩ := alg_of_laid hL
  obtain ⟨ba, len, cap, rfl, hlc, hcap, hnone, hb⟩ := open_text2 k1 h1
  by_cases hout : 3000 < len
  · refine ((law5_out (gOf W) kd ba len cap hout (by omega) (by omega)).2 (RestA W []) W sat_none).mono ?_
    rintro e W' ⟨_, rfl, hs⟩
    exact ⟨rfl, below_none hs⟩
  rcases Nat.eq_zero_or_pos len with hz | hz
  · subst hz
    have hr : RdOk csA 0 [] := fun i hi => absurd hi (by simp)
    exact law5_calls kd (by omega) 0 0 0 cap ba (fun h => absurd h (by decide)) csA TA frA [] hr rfl (by decide) hnone hA (by decide) a T1 fr1 he
  · rcases hb with hb | ⟨b, o, bs, cs, T, fr, rfl, hbl, hbb, hc⟩
    · omega
    · exact law5_calls kd (by omega) b o len cap _ (fun _ => ⟨rfl, hlc⟩) cs T fr bs hc hbl (by omega) hnone hbb (ne_one hbb he (hc 0 (by omega)).1 (fun _ _ h => by cases h)) a T1 fr1 he
set_option maxRecDepth 100000 in
theorem fnBranch_lifted (os : Os) (started : os.Started) (H : Type) (enc : TypeId × Value → H) :
    ReturnsInHanded {} Tryz.checked os 5 .any (fun w args => (Rows.fnBranchSpec.pre enc Tryz.prog Tryz.f5 [] false w args ∧ laidMet Tryz.prog Rows.fnBranchRow.laid w) ∧ sizedMet enc Tryz.prog Tryz.f5 (OpenSpec.ofChange Rows.fnBranchSpec) false w args)
      (Rows.fnBranchSpec.post enc Tryz.prog Tryz.f5 false true false false) := by
  refine returnsInHanded_of_change_and (C := Tryz.checked) (X := fun w _ => laidMet Tryz.prog Rows.fnBranchRow.laid w) (fun _ _ _ hh h => h.of_heap hh) tz_own started (by kernel_rfl) Tryz.func5
    (ChangeSpec.witness_at (enc := enc) (C := Tryz.checked) (os := os) (X := fun w _ => laidMet Tryz.prog Rows.fnBranchRow.laid w) false (laidWorld os) #[.int .u8 0, .slice none 0 0] 8 rfl (by kernel_rfl) (by kernel_rfl) (by kernel_rfl) (by kernel_rfl) (by kernel_rfl) (laidWorld_met os _)) ?_
  intro W base args ds gs before hval0 hW _ _ hL _
  have hval : ∀ (j : Nat) t v, Tryz.f5.params[j]? = some t → args[j]? = some v → Value.okWide Tryz.prog W .any base t v := hval0
  have hW' : DataW.Whole enc Tryz.prog Tryz.f5.params.toList Rows.fnBranchSpec.vars false W args.toList ds gs before := hW
  obtain ⟨p, q, hA0, hV0, rfl, hfz, hnd⟩ := hW
  have hA : DataW.TrodAll enc Tryz.prog W 0 (fun _ => true) true [5, 22] args.toList ds p := hA0
  have hV : DataW.TrodVars enc Tryz.prog W (fun _ => true) Rows.fnBranchSpec.vars gs q := hV0
  have hgl : gs.length = 13 := trodVars_len hV
  rw [fnBranch_params] at hval
  obtain ⟨v0, v1, d0, d1, p0, p1, rfl, rfl, rfl, h0, h1⟩ := trodAll_two hA
  have hs : Rows.fnBranchSpec.fn H ([d0, d1] ++ gs) = { results := [.lit (.bool true)], args := [d0, d1], vars := gs } := by
    match gs, hgl with
    | [y1, y2, y3, y4, y5, y6, y7, y8, y9, y10, y11, y12, y13], _ => rfl
  refine (fnBranch_calls hL (hval 0 5 v0 rfl rfl) (hval 1 22 v1 rfl rfl) h0 h1).mono fun e W' ⟨he, hB⟩ => ?_
  exact ⟨.bool true, he, post_keep hW' hB hs rfl (by kernel_rfl) (by intro t ht; have ht' : t ∈ [5, 22] := ht; simp only [List.mem_cons, List.not_mem_nil, or_false] at ht'; rcases ht' with rfl | rfl; exact Nat.lt_trans (by decide : 5 < 300) tz_types; exact Nat.lt_trans (by decide : 22 < 300) tz_types)⟩
end Go.Proofs.YtfpepghmbeoanaaGreatDoor
end
