/-
Arguments, opened.
FnLzma2's row, lifted.
FnLzma2's row, lifted: the frame.
-/
import Derived.Test.YtfpepghmbeoanaaGreatDoorQ15
import Derived.Test.YtfpepghmbeoanaaGreatDoorQ14
import Derived.Deep.Grids
import Derived.Carry
set_option linter.unusedSimpArgs false
set_option linter.unusedVariables false
section
open Go Go.RowKit
namespace Go.Proofs.YtfpepghmbeoanaaGreatDoor
open Go.ChangeShapes Go.WideShapes
/-! ### Arguments opened -/
theorem tz_cells5 : Tryz.prog.cellsOf 5 = 1 := by kernel_rfl
theorem tz_cells24 : Tryz.prog.cellsOf 24 = 6 := by kernel_rfl
section
variable {H : Type} {enc : TypeId × Value → H} {W : World} {base : Nat} {sp : Nat → Bool}
theorem u8_of_trod {fuel : Nat} {cs : List Value} {c : Value} {y : DataW H × List MemPlace} (h : DataW.trod enc Tryz.prog W base sp true fuel 5 cs = some y) (hc : cs = [c]) : ∃ x : Nat, x < 256 ∧ c = vu8 x := by
  obtain ⟨n, hn, _, hw⟩ := DataW.trod_int Tryz.underlying5 h
  rw [hc] at hn
  have hb := bounds_u8 hw
  refine ⟨n.toNat, by omega, ?_⟩
  have : c = .int .u8 n := by simpa using hn
  rw [this]
  exact vint (by omega)
set_option maxRecDepth 100000 in
theorem open_way {v : Value} {d : DataW H} {p : List MemPlace} (hval : Value.okWide Tryz.prog W .any base 24 v) {b0 : Nat} (h : DataW.Trod enc Tryz.prog W b0 sp true 24 v d p) :
    ∃ x0 x1 x2 x3 x4 x5 : Nat, v = .agg #[vu8 x0, vu8 x1, vu8 x2, vu8 x3, vu8 x4, vu8 x5] ∧ x0 < 256 ∧ x1 < 256 ∧ x2 < 256 ∧ x3 < 256 ∧ x4 < 256 ∧ x5 < 256 := by
  obtain ⟨cs, rfl, hsz⟩ := okWide_struct Tryz.underlying24 hval
  rw [tz_cells24] at hsz
  obtain ⟨l⟩ := cs
  obtain ⟨fuel, hf⟩ := h
  obtain ⟨xs, n, _, _, hl, hlen, hfs⟩ := DataW.trod_struct Tryz.underlying24 hf
  match l, hsz with
  | [c0, c1, c2, c3, c4, c5], _ =>
    match xs, hlen with
    | [y0, y1, y2, y3, y4, y5], _ =>
      obtain ⟨x0, h0, rfl⟩ := u8_of_trod (c := c0) (hfs 0 _ rfl) (by simp [Value.cells, tz_cells5])
      obtain ⟨x1, h1, rfl⟩ := u8_of_trod (c := c1) (hfs 1 _ rfl) (by simp [Value.cells, tz_cells5])
      obtain ⟨x2, h2, rfl⟩ := u8_of_trod (c := c2) (hfs 2 _ rfl) (by simp [Value.cells, tz_cells5])
      obtain ⟨x3, h3, rfl⟩ := u8_of_trod (c := c3) (hfs 3 _ rfl) (by simp [Value.cells, tz_cells5])
      obtain ⟨x4, h4, rfl⟩ := u8_of_trod (c := c4) (hfs 4 _ rfl) (by simp [Value.cells, tz_cells5])
      obtain ⟨x5, h5, rfl⟩ := u8_of_trod (c := c5) (hfs 5 _ rfl) (by simp [Value.cells, tz_cells5])
      exact ⟨x0, x1, x2, x3, x4, x5, rfl, h0, h1, h2, h3, h4, h5⟩
theorem heap_of_cell {b o : Nat} {v : Value} (h : W.cell? ⟨b, o, none⟩ = some v) : ∃ cs T fr, W.heap[b]? = some (.cells cs T fr) ∧ cs[o]? = some v := by
  unfold World.cell? at h
  cases hb : W.heap[b]? with
  | none => simp [hb] at h
  | some x =>
    cases x with
    | cells cs T fr => exact ⟨cs, T, fr, rfl, by simpa [hb] using h⟩
    | _ => simp [hb] at h
set_option maxRecDepth 100000 in
/-- A text: nothing is known of it beyond its length, or its cells are bytes. -/
theorem open_text {v : Value} {d : DataW H} {p : List MemPlace} (hval : Value.okWide Tryz.prog W .any base 22 v) {b0 : Nat} (h : DataW.Trod enc Tryz.prog W b0 sp true 22 v d p) :
    v = .slice none 0 0 ∨ (∃ a c, v = .slice (some a) 0 c) ∨ ∃ (b o len cap : Nat) (bs : List Nat) (cs : Array Value) (T : TypeId) (fr : Nat × Nat), v = .slice (some ⟨b, o, none⟩) len cap ∧ len < 9223372036854775808 ∧ 0 < len ∧ bs.length = len ∧ W.heap[b]? = some (.cells cs T fr) ∧
      ∀ i, i < bs.length → cs[o + i]? = some (vu8 (bs.getD i 0)) ∧ bs.getD i 0 < 256 := by
  obtain ⟨a0, len0, cap0, rfl⟩ := okWide_slice Tryz.underlying22 hval
  obtain ⟨fuel, hf⟩ := h
  rcases open_ints Tryz.underlying22 Tryz.underlying5 tz_cells5 hf with ⟨hcs, _⟩ | ⟨a, len, cap, zs, hcs, _, hlc, hcm, hzl, _, hcell, hwf⟩
  · left
    simpa [Value.cells] using hcs
  · right
    have he : Value.slice a0 len0 cap0 = .slice (some a) len cap := by simpa [Value.cells] using hcs
    rw [he]
    rcases Nat.eq_zero_or_pos len with h0 | hpos
    · left; subst h0; exact ⟨a, cap, rfl⟩
    right
    have hzlen : len ≤ zs.length := by rw [hzl]; split <;> omega
    obtain ⟨b, o, rfl, hcell2⟩ := ints_at hcell (by omega)
    obtain ⟨cs, T, fr, hb, _⟩ := heap_of_cell (hcell2 0 (by omega))
    have hm : cap ≤ 9223372036854775807 := by unfold maxLen at hcm; omega
    refine ⟨b, o, len, cap, (zs.take len).map Int.toNat, cs, T, fr, rfl, by omega, hpos, by simp; omega, hb, ?_⟩
    intro i hi
    have hi' : i < len := by simp at hi; omega
    have hiz : i < zs.length := by omega
    have hw : (Lit.int .u8 (zs.getD i 0)).wf = true := by
      rw [List.getD_eq_getElem?_getD, List.getElem?_eq_getElem hiz]
      exact hwf _ (List.getElem_mem hiz)
    have hbd := bounds_u8 hw
    have hg : ((zs.take len).map Int.toNat).getD i 0 = (zs.getD i 0).toNat := by
      simp [List.getD_eq_getElem?_getD, List.getElem?_take, hi', hiz]
    rw [hg]
    obtain ⟨cs2, T2, fr2, hb2, hc2⟩ := heap_of_cell (hcell2 i hiz)
    rw [hb] at hb2
    obtain ⟨rfl, rfl, rfl⟩ : cs = cs2 ∧ T = T2 ∧ fr = fr2 := by simpa using hb2
    exact ⟨by rw [hc2]; exact congrArg some (vint (by omega)), by omega⟩
end
end Go.Proofs.YtfpepghmbeoanaaGreatDoor
end

section
open Go Go.RowKit
namespace Go.Proofs.YtfpepghmbeoanaaGreatDoor
open Go.ChangeShapes Go.WideShapes
theorem tz_cells4 : Tryz.prog.cellsOf 4 = 1 := by kernel_rfl
theorem tz_alg : Tryz.prog.globalNamed "loop.example/pub-g03247/pub/sevenzip.errAlgorithm" = some 0 := by kernel_rfl
theorem tz_algT : (Tryz.prog.globals[0]?).map (·.type) = some 70 := by kernel_rfl
/-- A block that is always there. -/
theorem alg_of_laid {W : World} (h : laidMet Tryz.prog Rows.fnLzma2Row.laid W) : ∃ (cs : Array Value) (T : TypeId) (fr : Nat × Nat) (t : TypeId) (u : Value), W.heap[0]? = some (.cells cs T fr) ∧ cs = #[.iface t u] := by
  obtain ⟨a, s, hv, _⟩ := laid_sentinel h.tail.tail.tail.tail.tail.tail.tail.tail.tail.tail.tail.tail.tail.tail.tail.tail.tail.tail tz_alg tz_algT Tryz.underlying70 tz_row215 Tryz.underlying215 Tryz.underlying217 rfl rfl Tryz.underlying9 tz_cells217 tz_cells9
  unfold World.var? at hv
  rw [tz_alg] at hv
  simp only [Option.bind_some] at hv
  split at hv
  · rename_i cs T fr he
    obtain rfl := Option.some.inj hv
    exact ⟨_, T, fr, _, _, he, rfl⟩
  · cases hv
theorem rest_split {G : Gst} {W w : World} {l : List Asn} {out : List Nat} {b : Nat} {o : Obj} (h : Sat G w (RestA W out :: l)) (hb : W.heap[b]? = some o) (hn : b ∉ out) : Sat G w (blk b o :: RestA W (b :: out) :: l) := by
  refine h.of fun hs => ?_
  obtain ⟨h1, h2, hd, e, hA, hl⟩ := hs
  have hA' : h1 = fun k => if k ∈ out then none else W.heap[k]? := hA
  subst hA'
  have hh : h2 b = none := by
    rcases hd b with hx | hx
    · simp only [hn, if_false] at hx; rw [hb] at hx; cases hx
    · exact hx
  refine ⟨fun k => if k = b then some o else none, Hp.un (fun k => if k ∈ b :: out then none else W.heap[k]?) h2, ?_, ?_, rfl, _, h2, ?_, rfl, rfl, hl⟩
  · intro k
    by_cases hk : k = b
    · right; subst hk; simp [Hp.un, hh]
    · left; simp [hk]
  · rw [e]
    funext k
    by_cases hk : k = b
    · subst hk; simp [Hp.un, hn, hb, hh]
    · simp [Hp.un, hk]
  · intro k
    rcases hd k with hx | hx
    · left
      by_cases hk : k ∈ b :: out
      · simp [hk]
      · have : k ∉ out := fun h => hk (by simp [h])
        simp only [this, if_false] at hx
        simp only [hk, if_false]; exact hx
    · exact .inr hx
theorem Sat.free {G : Gst} {w : World} {l : List Asn} {A : Asn} (h : Sat G w l) (hA : A fun _ => none) : Sat G w (A :: l) :=
  h.of fun hs => ⟨fun _ => none, _, fun _ => .inl rfl, by funext k; simp [Hp.un], hA, hs⟩
theorem below_three {W W' : World} {a b c : Nat} {o1 o2 o3 : Obj} (ha : W.heap[a]? = some o1) (hb : W.heap[b]? = some o2) (hc : W.heap[c]? = some o3) (hs : Sat (gOf W) W' [blk a o1, blk b o2, blk c o3, RestA W [a, b, c]]) : Below W.heap.size W W' := by
  refine below_of hs.os hs.tape hs.output fun k hk => ?_
  by_cases hka : k = a
  · subst hka; rw [ha]; exact hs.block
  by_cases hkb : k = b
  · subst hkb; rw [hb]; exact hs.drop.block
  by_cases hkc : k = c
  · subst hkc; rw [hc]; exact hs.drop.drop.block
  · exact rest_keep hs.drop.drop.drop k hk (by simp [hka, hkb, hkc])
section
variable {H : Type} {enc : TypeId × Value → H} {W : World} {base : Nat}
set_option maxRecDepth 100000 in
theorem open_text2 {v : Value} {d : DataW H} {p : List MemPlace} (hval : Value.okWide Tryz.prog W .any base 22 v) {b0 : Nat} (h : DataW.Trod enc Tryz.prog W b0 (fun _ => true) true 22 v d p) :
    ∃ (ba : Option Addr) (len cap : Nat), v = .slice ba len cap ∧ len ≤ cap ∧ cap < 9223372036854775808 ∧ (ba = none → cap = 0) ∧ (len = 0 ∨ ∃ (b o : Nat) (bs : List Nat) (cs : Array Value) (T : TypeId) (fr : Nat × Nat), ba = some ⟨b, o, none⟩ ∧ bs.length = len ∧ W.heap[b]? = some (.cells cs T fr) ∧
      ∀ i, i < bs.length → cs[o + i]? = some (vu8 (bs.getD i 0)) ∧ bs.getD i 0 < 256) := by
  obtain ⟨a0, len0, cap0, rfl⟩ := okWide_slice Tryz.underlying22 hval
  obtain ⟨fuel, hf⟩ := h
  rcases open_ints Tryz.underlying22 Tryz.underlying5 tz_cells5 hf with ⟨hcs, _⟩ | ⟨a, len, cap, zs, hcs, _, hlc, hcm, hzl, _, hcell, hwf⟩
  · have he : Value.slice a0 len0 cap0 = .slice none 0 0 := by simpa [Value.cells] using hcs
    exact ⟨none, 0, 0, he, Nat.le_refl _, by decide, fun _ => rfl, .inl rfl⟩
  · have he : Value.slice a0 len0 cap0 = .slice (some a) len cap := by simpa [Value.cells] using hcs
    have hm : cap ≤ 9223372036854775807 := by unfold maxLen at hcm; omega
    refine ⟨some a, len, cap, he, hlc, by omega, fun h => (by cases h), ?_⟩
    rcases Nat.eq_zero_or_pos len with h0 | hpos
    · exact .inl h0
    right
    have hzlen : len ≤ zs.length := by rw [hzl]; split <;> omega
    obtain ⟨b, o, rfl, hcell2⟩ := ints_at hcell (by omega)
    obtain ⟨cs, T, fr, hb, _⟩ := heap_of_cell (hcell2 0 (by omega))
    refine ⟨b, o, (zs.take len).map Int.toNat, cs, T, fr, rfl, by simp; omega, hb, ?_⟩
    intro i hi
    have hi' : i < len := by simp at hi; omega
    have hiz : i < zs.length := by omega
    have hw : (Lit.int .u8 (zs.getD i 0)).wf = true := by
      rw [List.getD_eq_getElem?_getD, List.getElem?_eq_getElem hiz]
      exact hwf _ (List.getElem_mem hiz)
    have hbd := bounds_u8 hw
    have hg : ((zs.take len).map Int.toNat).getD i 0 = (zs.getD i 0).toNat := by
      simp [List.getD_eq_getElem?_getD, List.getElem?_take, hi', hiz]
    rw [hg]
    obtain ⟨cs2, T2, fr2, hb2, hc2⟩ := heap_of_cell (hcell2 i hiz)
    rw [hb] at hb2
    obtain ⟨rfl, rfl, rfl⟩ : cs = cs2 ∧ T = T2 ∧ fr = fr2 := by simpa using hb2
    exact ⟨by rw [hc2]; exact congrArg some (vint (by omega)), by omega⟩
set_option maxRecDepth 100000 in
/-- A list of bools. -/
theorem open_plain {v : Value} {d : DataW H} {p : List MemPlace} (hval : Value.okWide Tryz.prog W .any base 33 v) {b0 : Nat} (h : DataW.Trod enc Tryz.prog W b0 (fun _ => true) true 33 v d p) :
    ∃ (pa : Option Addr) (len cap : Nat), v = .slice pa len cap ∧ len < 9223372036854775808 ∧ (len = 0 ∨ ∃ (b o : Nat) (B : Nat → Bool) (cs : Array Value) (T : TypeId) (fr : Nat × Nat), pa = some ⟨b, o, none⟩ ∧ W.heap[b]? = some (.cells cs T fr) ∧ ∀ j, j < len → cs[o + j]? = some (.bool (B j))) := by
  obtain ⟨a0, len0, cap0, rfl⟩ := okWide_slice Tryz.underlying33 hval
  obtain ⟨fuel, hf⟩ := h
  rcases Go.Deep.open_bools Tryz.underlying33 Tryz.underlying4 tz_cells4 hf with ⟨hcs, _⟩ | ⟨a, len, cap, B, hcs, _, hlc, hcm, _, hcell⟩
  · have he : Value.slice a0 len0 cap0 = .slice none 0 0 := by simpa [Value.cells] using hcs
    exact ⟨none, 0, 0, he, by decide, .inl rfl⟩
  · have he : Value.slice a0 len0 cap0 = .slice (some a) len cap := by simpa [Value.cells] using hcs
    have hm : cap ≤ 9223372036854775807 := by unfold maxLen at hcm; omega
    refine ⟨some a, len, cap, he, by omega, ?_⟩
    rcases Nat.eq_zero_or_pos len with h0 | hpos
    · exact .inl h0
    right
    obtain ⟨b, o, spot⟩ := a
    have hspot : spot = none := by simpa [Addr.add] using World.cell?_spot (hcell 0 (by omega))
    subst hspot
    obtain ⟨cs, T, fr, hb, _⟩ := heap_of_cell (by have := hcell 0 (by omega); rw [Go.WideShapes.add_plain] at this; exact this)
    refine ⟨b, o, B, cs, T, fr, rfl, hb, fun j hj => ?_⟩
    have h1 := hcell j (by omega)
    rw [Go.WideShapes.add_plain] at h1
    obtain ⟨cs2, T2, fr2, hb2, hc2⟩ := heap_of_cell h1
    rw [hb] at hb2
    obtain ⟨rfl, rfl, rfl⟩ : cs = cs2 ∧ T = T2 ∧ fr = fr2 := by simpa using hb2
    exact hc2
end
theorem fnLzma2_params : Tryz.f4.params = #[22, 24, 5, 33] := rfl
/-- The law, called where the blocks are known. -/
theorem law4_calls {W : World} (bb ob bl bc : Nat) (ba : Option Addr) (hba : 0 < bl → ba = some ⟨bb, ob, none⟩ ∧ bl ≤ bc) (cs : Array Value) (Tb : TypeId) (fr : Nat × Nat) (bs : List Nat) (hb : RdOk cs ob bs) (hbl : bs.length = bl) (h2 : bl ≤ 3000) (hbc : bc < 9223372036854775808) (hb0 : ba = none → bc = 0)
    (hbb : W.heap[bb]? = some (.cells cs Tb fr)) (hb1 : bb ≠ 1) (a : Addr) (T1 : TypeId) (fr1 : Nat × Nat) (he : W.heap[1]? = some (.cells #[.iface 215 (.pointer (some a))] T1 fr1))
    (pa : Option Addr) (plen pcap : Nat) (hpl : plen ≤ 100) (hp : plen = 0 ∨ ∃ (b o : Nat) (B : Nat → Bool) (cs' : Array Value) (T : TypeId) (fr' : Nat × Nat), pa = some ⟨b, o, none⟩ ∧ W.heap[b]? = some (.cells cs' T fr') ∧ b ≠ 1 ∧ ∀ j, j < plen → cs'[o + j]? = some (.bool (B j)))
    (x0 x1 x2 x3 x4 x5 pc : Nat) (g0 : x0 < 256) (g1 : x1 < 256) (g2 : x2 < 256) (g3 : x3 < 256) (g4 : x4 < 256) (g5 : x5 < 256) (gp : pc < 256) :
    Calls Tryz.prog 4 #[.slice ba bl bc, .agg #[vu8 x0, vu8 x1, vu8 x2, vu8 x3, vu8 x4, vu8 x5], vu8 pc, .slice pa plen pcap] W fun e W' => e = .returned (.bool true) ∧ Below W.heap.size W W' := by
  have hsame : ∀ (pb po : Nat) (B : Nat → Bool), (0 < plen → pa = some ⟨pb, po, none⟩) → (∀ w r, Sat (gOf W) w (blk bb (.cells cs Tb fr) :: emp :: r) → ∀ j, j < plen → w.cell? ⟨pb, po + j, none⟩ = some (.bool (B j))) →
      Calls Tryz.prog 4 #[.slice ba bl bc, .agg #[vu8 x0, vu8 x1, vu8 x2, vu8 x3, vu8 x4, vu8 x5], vu8 pc, .slice pa plen pcap] W fun e W' => e = .returned (.bool true) ∧ Below W.heap.size W W' := by
    intro pb po B hpa hP
    have hs : Sat (gOf W) W [blk bb (.cells cs Tb fr), emp, EofA a T1 fr1, RestA W [bb, 1]] := Sat.get (Sat.free (A := emp) (sat_two hbb he hb1) rfl) (xpkE)
    refine ((law4_in (gOf W) bb ob bl bc ba hba cs Tb fr bs hb hbl h2 hbc (fun _ => hb0) pa pb po plen pcap hpl B hpa emp hP x0 x1 x2 x3 x4 x5 pc g0 g1 g2 g3 g4 g5 gp a T1 fr1).2 (RestA W [bb, 1]) W hs).mono ?_
    rintro e W' ⟨_, rfl, hs2⟩
    exact ⟨rfl, below_two hbb he (Sat.get (l := [blk bb (.cells cs Tb fr), emp, EofA a T1 fr1, RestA W [bb, 1]]) hs2 xpkE)⟩
  rcases hp with h0 | ⟨pb, po, B, cs', T', fr', rfl, hpb, hp1, hpc⟩
  · exact hsame 0 0 (fun _ => false) (fun h => absurd h (by omega)) (fun w r hw j hj => absurd hj (by omega))
  by_cases hpe : pb = bb
  · subst hpe
    rw [hbb] at hpb
    obtain ⟨rfl, rfl, rfl⟩ : cs = cs' ∧ Tb = T' ∧ fr = fr' := by simpa using hpb
    exact hsame pb po B (fun _ => rfl) (fun w r hw j hj => hw.cell Pick.here (hpc j hj))
  · have hs1 : Sat (gOf W) W (RestA W [] :: []) := sat_none
    have hs2 := rest_split hs1 he (by simp)
    have hs3 := rest_split (Sat.get (p := [RestA W [1], blk 1 (.cells #[.iface 215 (.pointer (some a))] T1 fr1)]) hs2 xpkE) hpb (by simp [hp1])
    have hs4 := rest_split (Sat.get (p := [RestA W [pb, 1], blk pb (.cells cs' T' fr'), blk 1 (.cells #[.iface 215 (.pointer (some a))] T1 fr1)]) hs3 xpkE) hbb (by simp [hb1, Ne.symm hpe])
    have hs : Sat (gOf W) W [blk bb (.cells cs Tb fr), blk pb (.cells cs' T' fr'), EofA a T1 fr1, RestA W [bb, pb, 1]] := Sat.get hs4 xpkE
    refine ((law4_in (gOf W) bb ob bl bc ba hba cs Tb fr bs hb hbl h2 hbc (fun _ => hb0) (some ⟨pb, po, none⟩) pb po plen pcap hpl B (fun _ => rfl) (blk pb (.cells cs' T' fr')) (fun w r hw j hj => hw.cell (Pick.there Pick.here) (hpc j hj)) x0 x1 x2 x3 x4 x5 pc g0 g1 g2 g3 g4 g5 gp a T1 fr1).2 (RestA W [bb, pb, 1]) W hs).mono ?_
    rintro e W' ⟨_, rfl, hs5⟩
    exact ⟨rfl, below_three hbb hpb he hs5⟩
theorem ne_one {W : World} {b o : Nat} {cs : Array Value} {T : TypeId} {fr : Nat × Nat} {v : Value} {a : Addr} {T1 : TypeId} {fr1 : Nat × Nat} (hb : W.heap[b]? = some (.cells cs T fr)) (he : W.heap[1]? = some (.cells #[.iface 215 (.pointer (some a))] T1 fr1)) (hc : cs[o]? = some v) (hv : ∀ t u, v ≠ .iface t u) : b ≠ 1 := by
  rintro rfl
  rw [hb] at he
  have hcs : cs = #[.iface 215 (.pointer (some a))] := by simpa using (Obj.cells.inj (Option.some.inj he)).1
  rw [hcs] at hc
  rcases Nat.eq_zero_or_pos o with h | h
  · subst h
    simp at hc
    exact hv _ _ hc.symm
  · have h2 : (#[Value.iface 215 (.pointer (some a))] : Array Value)[o]? = none := Array.getElem?_eq_none (by simp; omega)
    rw [h2] at hc; cases hc
end Go.Proofs.YtfpepghmbeoanaaGreatDoor
end

section
open Go Go.RowKit
namespace Go.Proofs.YtfpepghmbeoanaaGreatDoor
open Go.ChangeShapes Go.WideShapes
set_option maxRecDepth 100000 in
theorem fnLzma2_calls {W : World} {H : Type} {enc : TypeId × Value → H} {base : Nat} {v0 v1 v2 v3 : Value} {d0 d1 d2 d3 : DataW H} {p0 p1 p2 p3 : List MemPlace} (hL : laidMet Tryz.prog Rows.fnLzma2Row.laid W)
    (k0 : Value.okWide Tryz.prog W .any base 22 v0) (k1 : Value.okWide Tryz.prog W .any base 24 v1) (k2 : Value.okWide Tryz.prog W .any base 5 v2) (k3 : Value.okWide Tryz.prog W .any base 33 v3)
    (h0 : DataW.Trod enc Tryz.prog W 0 (fun _ => true) true 22 v0 d0 p0) (h1 : DataW.Trod enc Tryz.prog W 0 (fun _ => true) true 24 v1 d1 p1) (h2 : DataW.Trod enc Tryz.prog W 0 (fun _ => true) true 5 v2 d2 p2) (h3 : DataW.Trod enc Tryz.prog W 0 (fun _ => true) true 33 v3 d3 p3) :
    Calls Tryz.prog 4 #[v0, v1, v2, v3] W fun e W' => e = .returned (.bool true) ∧ Below W.heap.size W W' := by
  obtain ⟨x0, x1, x2, x3, x4, x5, rfl, g0, g1, g2, g3, g4, g5⟩ := open_way k1 h1
  obtain ⟨n, rfl, _, _, hwn⟩ := open_int Tryz.underlying5 k2 h2
  have hbn := bounds_u8 hwn
  obtain ⟨pc, rfl⟩ : ∃ pc : Nat, n = (pc : Int) := ⟨n.toNat, by omega⟩
  obtain ⟨a, T1, fr1, he⟩ := eof_of_laid hL
  obtain ⟨csA, TA, frA, tA, uA, hA, hA2⟩ := alg_of_laid hL
  obtain ⟨ba, len, cap, rfl, hlc, hcap, hnone, hb⟩ := open_text2 k0 h0
  obtain ⟨pa, plen, pcap, rfl, hplt, hp⟩ := open_plain k3 h3
  by_cases hout : 3000 < len ∨ 100 < plen
  · refine ((law4_out (gOf W) ba len cap _ pc pa plen pcap hout (by omega) hplt).2 (RestA W []) W sat_none).mono ?_
    rintro e W' ⟨_, rfl, hs⟩
    exact ⟨rfl, below_none hs⟩
  have hp' : plen = 0 ∨ ∃ (b o : Nat) (B : Nat → Bool) (cs' : Array Value) (T : TypeId) (fr' : Nat × Nat), pa = some ⟨b, o, none⟩ ∧ W.heap[b]? = some (.cells cs' T fr') ∧ b ≠ 1 ∧ ∀ j, j < plen → cs'[o + j]? = some (.bool (B j)) := by
    rcases Nat.eq_zero_or_pos plen with hz | hz
    · exact .inl hz
    rcases hp with hp | ⟨b, o, B, cs', T, fr', e1, e2, e3⟩
    · exact .inl hp
    · exact .inr ⟨b, o, B, cs', T, fr', e1, e2, ne_one e2 he (e3 0 hz) (fun _ _ h => by cases h), e3⟩
  rcases Nat.eq_zero_or_pos len with hz | hz
  · subst hz
    have hr : RdOk csA 0 [] := fun i hi => absurd hi (by simp)
    exact law4_calls 0 0 0 cap ba (fun h => absurd h (by decide)) csA TA frA [] hr rfl (by decide) hcap hnone hA (by decide) a T1 fr1 he pa plen pcap (by omega) hp' x0 x1 x2 x3 x4 x5 pc g0 g1 g2 g3 g4 g5 (by omega)
  · rcases hb with hb | ⟨b, o, bs, cs, T, fr, rfl, hbl, hbb, hc⟩
    · omega
    · exact law4_calls b o len cap _ (fun _ => ⟨rfl, hlc⟩) cs T fr bs hc hbl (by omega) hcap hnone hbb (ne_one hbb he (hc 0 (by omega)).1 (fun _ _ h => by cases h)) a T1 fr1 he pa plen pcap (by omega) hp' x0 x1 x2 x3 x4 x5 pc g0 g1 g2 g3 g4 g5 (by omega)
set_option maxRecDepth 100000 in
theorem fnLzma2_lifted (os : Os) (started : os.Started) (H : Type) (enc : TypeId × Value → H) :
    ReturnsInHanded {} Tryz.checked os 4 .any (fun w args => (Rows.fnLzma2Spec.pre enc Tryz.prog Tryz.f4 [] false w args ∧ laidMet Tryz.prog Rows.fnLzma2Row.laid w) ∧ sizedMet enc Tryz.prog Tryz.f4 (OpenSpec.ofChange Rows.fnLzma2Spec) false w args)
      (Rows.fnLzma2Spec.post enc Tryz.prog Tryz.f4 false true false false) := by
  refine returnsInHanded_of_change_and (C := Tryz.checked) (X := fun w _ => laidMet Tryz.prog Rows.fnLzma2Row.laid w) (fun _ _ _ hh h => h.of_heap hh) tz_own started (by kernel_rfl) Tryz.func4
    (ChangeSpec.witness_at (enc := enc) (C := Tryz.checked) (os := os) (X := fun w _ => laidMet Tryz.prog Rows.fnLzma2Row.laid w) false (laidWorld os) #[.slice none 0 0, .agg #[.int .u8 0, .int .u8 0, .int .u8 0, .int .u8 0, .int .u8 0, .int .u8 0], .int .u8 0, .slice none 0 0] 8 rfl (by kernel_rfl) (by kernel_rfl) (by kernel_rfl) (by kernel_rfl) (by kernel_rfl) (laidWorld_met os _)) ?_
  intro W base args ds gs before hval0 hW _ _ hL _
  have hval : ∀ (j : Nat) t v, Tryz.f4.params[j]? = some t → args[j]? = some v → Value.okWide Tryz.prog W .any base t v := hval0
  have hW' : DataW.Whole enc Tryz.prog Tryz.f4.params.toList Rows.fnLzma2Spec.vars false W args.toList ds gs before := hW
  obtain ⟨p, q, hA0, hV0, rfl, hfz, hnd⟩ := hW
  have hA : DataW.TrodAll enc Tryz.prog W 0 (fun _ => true) true [22, 24, 5, 33] args.toList ds p := hA0
  have hV : DataW.TrodVars enc Tryz.prog W (fun _ => true) Rows.fnLzma2Spec.vars gs q := hV0
  have hgl : gs.length = 13 := trodVars_len hV
  rw [fnLzma2_params] at hval
  obtain ⟨v0, v1, v2, v3, d0, d1, d2, d3, p0, p1, p2, p3, rfl, rfl, rfl, h0, h1, h2, h3⟩ := trodAll_four hA
  have hs : Rows.fnLzma2Spec.fn H ([d0, d1, d2, d3] ++ gs) = { results := [.lit (.bool true)], args := [d0, d1, d2, d3], vars := gs } := by
    match gs, hgl with
    | [y1, y2, y3, y4, y5, y6, y7, y8, y9, y10, y11, y12, y13], _ => rfl
  refine (fnLzma2_calls hL (hval 0 22 v0 rfl rfl) (hval 1 24 v1 rfl rfl) (hval 2 5 v2 rfl rfl) (hval 3 33 v3 rfl rfl) h0 h1 h2 h3).mono fun e W' ⟨he, hB⟩ => ?_
  exact ⟨.bool true, he, post_keep hW' hB hs rfl (by kernel_rfl) (by intro t ht; have ht' : t ∈ [22, 24, 5, 33] := ht; simp only [List.mem_cons, List.not_mem_nil, or_false] at ht'; rcases ht' with rfl | rfl | rfl | rfl; exact Nat.lt_trans (by decide : 22 < 300) tz_types; exact Nat.lt_trans (by decide : 24 < 300) tz_types; exact Nat.lt_trans (by decide : 5 < 300) tz_types; exact Nat.lt_trans (by decide : 33 < 300) tz_types)⟩
end Go.Proofs.YtfpepghmbeoanaaGreatDoor
end
