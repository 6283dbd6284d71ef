/-
Closing: what a row asks, out of a walk that leaves memory as it was; a world that meets the condition.
-/
import Derived.Test.YtfpepghmbeoanaaGreatDoorR03
import Derived.Test.YtfpepghmbeoanaaGreatDoorRows
import Derived.ChangeSame
import Derived.ChangeVars
import Derived.ChangeSlices
import Derived.JoinedOf
import Derived.RowKit
import Derived.RowKitTokens
import Derived.LaidLaws
import Derived.Stop.LaidErr
import Derived.ReadAgain
import Derived.ChangeReads
import Derived.ChangeOld
import Derived.OpenShut
import Derived.Below
set_option linter.unusedSimpArgs false
set_option linter.unusedVariables false
open Go Go.RowKit
namespace Go.Proofs.YtfpepghmbeoanaaGreatDoor
open Go.ChangeShapes Go.WideShapes
theorem tz_own : ownKnob Tryz.prog.godebug = none := by kernel_rfl
theorem tz_eof : Tryz.prog.globalNamed "io.EOF" = some 1 := by kernel_rfl
theorem tz_eofT : (Tryz.prog.globals[1]?).map (·.type) = some 70 := by kernel_rfl
theorem tz_cells217 : Tryz.prog.cellsOf 217 = 1 := by kernel_rfl
theorem tz_cells9 : Tryz.prog.cellsOf 9 = 1 := by kernel_rfl
theorem tz_star : "*" ++ "errors.errorString" = "*errors.errorString" := by decide
theorem tz_row215 (u : TypeId) (h : Tryz.prog.typeName? 3 u = some "*errors.errorString") : u = 215 :=
  typeName_ptr_named (nm := "errors.errorString") (by rw [tz_star]; kernel_rfl) (by kernel_rfl) (by decide) u (by rw [tz_star]; exact h)
theorem tz_kids : Kids Tryz.prog (· < Tryz.prog.types.size) := kids_rows (by kernel_rfl) (by kernel_rfl)
theorem tz_full : ∀ t e, t < Tryz.prog.types.size → Tryz.prog.underlying t = some (.slice e) → 0 < Tryz.prog.cellsOf e := slices_full_of Tryz.prog (by kernel_rfl)
theorem tz_types : 300 < Tryz.prog.types.size := by
  have : Nat.blt 300 Tryz.prog.types.size = true := by kernel_rfl
  rwa [Nat.blt_eq] at this
/-- What the condition gives: io.EOF's block. -/
theorem eof_of_laid {W : World} (h : laidMet Tryz.prog Rows.fnLzmaRow.laid W) : ∃ (a : Addr) (T : TypeId) (fr : Nat × Nat), W.heap[1]? = some (.cells #[.iface 215 (.pointer (some a))] T fr) := by
  obtain ⟨a, s, hv, _⟩ := laid_sentinel h.tail.tail.tail.tail tz_eof tz_eofT Tryz.underlying70 tz_row215 Tryz.underlying215 Tryz.underlying217 rfl rfl Tryz.underlying9 tz_cells217 tz_cells9
  unfold World.var? at hv
  rw [tz_eof] at hv
  simp only [Option.bind_some] at hv
  split at hv
  · rename_i cs T fr he
    obtain rfl := Option.some.inj hv
    exact ⟨a, T, fr, he⟩
  · cases hv
noncomputable def low : Nat := (World.holding Tryz.prog default ⟨#[], #[], []⟩).heap.size
noncomputable def laidCells : List (Nat × Array Value) :=
  [(18, #[.int .u8 0, .int .u8 1, .int .u8 28, .int .u8 2, .int .u8 29, .int .u8 14, .int .u8 24, .int .u8 3, .int .u8 30, .int .u8 22, .int .u8 20, .int .u8 15, .int .u8 25, .int .u8 17, .int .u8 4, .int .u8 8, .int .u8 31, .int .u8 27, .int .u8 13, .int .u8 23, .int .u8 21, .int .u8 19, .int .u8 16, .int .u8 7, .int .u8 26, .int .u8 12, .int .u8 18, .int .u8 6, .int .u8 11, .int .u8 5, .int .u8 10, .int .u8 9]),
   (19, #[.int .u8 0, .int .u8 1, .int .u8 56, .int .u8 2, .int .u8 57, .int .u8 49, .int .u8 28, .int .u8 3, .int .u8 61, .int .u8 58, .int .u8 42, .int .u8 50, .int .u8 38, .int .u8 29, .int .u8 17, .int .u8 4, .int .u8 62, .int .u8 47, .int .u8 59, .int .u8 36, .int .u8 45, .int .u8 43, .int .u8 51, .int .u8 22, .int .u8 53, .int .u8 39, .int .u8 33, .int .u8 30, .int .u8 24, .int .u8 18, .int .u8 12, .int .u8 5, .int .u8 63, .int .u8 55, .int .u8 48, .int .u8 27, .int .u8 60, .int .u8 41, .int .u8 37, .int .u8 16, .int .u8 46, .int .u8 35, .int .u8 44, .int .u8 21, .int .u8 52, .int .u8 32, .int .u8 23, .int .u8 11, .int .u8 54, .int .u8 26, .int .u8 40, .int .u8 15, .int .u8 34, .int .u8 20, .int .u8 31, .int .u8 10, .int .u8 25, .int .u8 14, .int .u8 19, .int .u8 9, .int .u8 13, .int .u8 8, .int .u8 7, .int .u8 6]),
   (17, #[.int .u64 1, .int .u64 10, .int .u64 100, .int .u64 1000, .int .u64 10000, .int .u64 100000, .int .u64 1000000, .int .u64 10000000, .int .u64 100000000, .int .u64 1000000000, .int .u64 10000000000, .int .u64 100000000000, .int .u64 1000000000000, .int .u64 10000000000000, .int .u64 100000000000000, .int .u64 1000000000000000, .int .u64 10000000000000000, .int .u64 100000000000000000, .int .u64 1000000000000000000, .int .u64 10000000000000000000]),
   (12, #[.iface 215 (.pointer (some ⟨low + 0, 0, none⟩))]),
   (1, #[.iface 215 (.pointer (some ⟨low + 1, 0, none⟩))]),
   (13, #[.iface 215 (.pointer (some ⟨low + 2, 0, none⟩))]),
   (3, #[.iface 215 (.pointer (some ⟨low + 3, 0, none⟩))]),
   (4, #[.iface 215 (.pointer (some ⟨low + 4, 0, none⟩))]),
   (11, #[.iface 215 (.pointer (some ⟨low + 5, 0, none⟩))]),
   (10, #[.iface 215 (.pointer (some ⟨low + 6, 0, none⟩))]),
   (6, #[.iface 215 (.pointer (some ⟨low + 7, 0, none⟩))]),
   (16, #[.iface 215 (.pointer (some ⟨low + 8, 0, none⟩))]),
   (14, #[.iface 215 (.pointer (some ⟨low + 9, 0, none⟩))]),
   (15, #[.iface 215 (.pointer (some ⟨low + 10, 0, none⟩))]),
   (5, #[.iface 215 (.pointer (some ⟨low + 11, 0, none⟩))]),
   (7, #[.iface 215 (.pointer (some ⟨low + 12, 0, none⟩))]),
   (8, #[.iface 215 (.pointer (some ⟨low + 13, 0, none⟩))]),
   (9, #[.iface 215 (.pointer (some ⟨low + 14, 0, none⟩))]),
   (0, #[.iface 215 (.pointer (some ⟨low + 15, 0, none⟩))]),
   (2, #[.iface 215 (.pointer (some ⟨low + 16, 0, none⟩))])]
noncomputable def laidWorld (os : Os) : World :=
  let w0 := World.holding Tryz.prog os ⟨#[.cells #[.string ⟨#[115, 104, 111, 114, 116, 32, 98, 117, 102, 102, 101, 114]⟩] 217,
    .cells #[.string ⟨#[69, 79, 70]⟩] 217,
    .cells #[.string ⟨#[117, 110, 101, 120, 112, 101, 99, 116, 101, 100, 32, 69, 79, 70]⟩] 217,
    .cells #[.string ⟨#[100, 101, 108, 116, 97, 58, 32, 110, 101, 101, 100, 32, 101, 120, 97, 99, 116, 108, 121, 32, 111, 110, 101, 32, 114, 101, 97, 100, 101, 114]⟩] 217,
    .cells #[.string ⟨#[100, 101, 108, 116, 97, 58, 32, 110, 111, 116, 32, 101, 110, 111, 117, 103, 104, 32, 112, 114, 111, 112, 101, 114, 116, 105, 101, 115]⟩] 217,
    .cells #[.string ⟨#[98, 121, 116, 101, 115, 46, 66, 117, 102, 102, 101, 114, 58, 32, 116, 111, 111, 32, 108, 97, 114, 103, 101]⟩] 217,
    .cells #[.string ⟨#[98, 114, 97, 58, 32, 110, 101, 101, 100, 32, 101, 120, 97, 99, 116, 108, 121, 32, 111, 110, 101, 32, 114, 101, 97, 100, 101, 114]⟩] 217,
    .cells #[.string ⟨#[98, 99, 106, 50, 58, 32, 110, 101, 101, 100, 32, 101, 120, 97, 99, 116, 108, 121, 32, 102, 111, 117, 114, 32, 114, 101, 97, 100, 101, 114, 115]⟩] 217,
    .cells #[.string ⟨#[108, 122, 109, 97, 58, 32, 117, 110, 115, 117, 112, 112, 111, 114, 116, 101, 100, 32, 99, 104, 117, 110, 107, 32, 104, 101, 97, 100, 101, 114, 32, 98, 121, 116, 101]⟩] 217,
    .cells #[.string ⟨#[108, 122, 109, 97, 58, 32, 117, 110, 101, 120, 112, 101, 99, 116, 101, 100, 32, 99, 104, 117, 110, 107, 32, 116, 121, 112, 101]⟩] 217,
    .cells #[.string ⟨#[108, 122, 109, 97, 58, 32, 119, 114, 111, 110, 103, 32, 99, 104, 117, 110, 107, 32, 115, 116, 97, 116, 101]⟩] 217,
    .cells #[.string ⟨#[108, 122, 109, 97, 58, 32, 110, 101, 101, 100, 32, 101, 120, 97, 99, 116, 108, 121, 32, 111, 110, 101, 32, 114, 101, 97, 100, 101, 114]⟩] 217,
    .cells #[.string ⟨#[108, 122, 109, 97, 50, 58, 32, 110, 101, 101, 100, 32, 101, 120, 97, 99, 116, 108, 121, 32, 111, 110, 101, 32, 114, 101, 97, 100, 101, 114]⟩] 217,
    .cells #[.string ⟨#[108, 122, 109, 97, 50, 58, 32, 110, 111, 116, 32, 101, 110, 111, 117, 103, 104, 32, 112, 114, 111, 112, 101, 114, 116, 105, 101, 115]⟩] 217,
    .cells #[.string ⟨#[108, 122, 109, 97, 50, 58, 32, 105, 110, 118, 97, 108, 105, 100, 32, 112, 114, 111, 112, 101, 114, 116, 105, 101, 115]⟩] 217,
    .cells #[.string ⟨#[115, 101, 118, 101, 110, 122, 105, 112, 58, 32, 117, 110, 115, 117, 112, 112, 111, 114, 116, 101, 100, 32, 99, 111, 109, 112, 114, 101, 115, 115, 105, 111, 110, 32, 97, 108, 103, 111, 114, 105, 116, 104, 109]⟩] 217,
    .cells #[.string ⟨#[99, 111, 112, 121, 58, 32, 110, 101, 101, 100, 32, 101, 120, 97, 99, 116, 108, 121, 32, 111, 110, 101, 32, 114, 101, 97, 100, 101, 114]⟩] 217], #[], []⟩
  { w0 with heap := laidCells.foldl (fun h x => h.modify x.1 fun
      | .cells _ t frozen => .cells x.2 t frozen
      | o => o) w0.heap }
set_option maxRecDepth 100000 in
theorem laidWorld_met (os : Os) (args : Array Value) : laidMet Tryz.prog Rows.fnLzmaRow.laid ((laidWorld os).forCall (fun _ _ => 0) ⟨#[], args, []⟩).memory :=
  laidMet_of_run' 8 (by kernel_rfl) (by kernel_rfl)
/-! ### Readings stay -/
section
variable {H : Type} {enc : TypeId × Value → H} {P : Program} {W W' : World}
def ifaceVar (P : Program) (n : String) : Bool := match (P.globalNamed n).bind fun g => (P.globals[g]?).bind fun x => P.underlying x.type with | some (.interface _) => true | _ => false
theorem vars_keep (hB : Below W.heap.size W W') {sp sp' : Nat → Bool} : ∀ {ns : List String} {gs : List (DataW H)} {ps : List MemPlace}, ns.all (ifaceVar P) = true → DataW.TrodVars enc P W sp ns gs ps → DataW.TrodVars enc P W' sp' ns gs ps
  | [], [], _, _, h => h
  | n :: ns, d :: ds, ps, hall, ⟨g, t, cs, fuel, p, q, hg, ht, hv, hd, hq, e⟩ => by
    simp only [List.all_cons, Bool.and_eq_true] at hall
    have hi : ∃ ms, P.underlying t = some (.interface ms) := by
      have h1 := hall.1
      unfold ifaceVar at h1
      rw [hg] at h1
      simp only [Option.bind_some] at h1
      obtain ⟨x, hx, hxt⟩ := Option.map_eq_some_iff.1 ht
      rw [hx] at h1
      simp only [Option.bind_some, hxt] at h1
      split at h1
      · rename_i ms hms; exact ⟨ms, hms⟩
      · cases h1
    obtain ⟨ms, hms⟩ := hi
    obtain ⟨x, rfl, hix, rfl, rfl, hc⟩ := token_of hg hms hv hd
    have hlt : g < W.heap.size := by
      rcases Nat.lt_or_ge g W.heap.size with h' | h'
      · exact h'
      · unfold World.var? at hv; rw [hg] at hv; simp [Array.getElem?_eq_none h'] at hv
    have hv' : W'.var? P n = some #[x] := by
      unfold World.var? at hv ⊢
      rw [hg] at hv ⊢
      simp only [Option.bind_some] at hv ⊢
      rw [hB.block g hlt]; exact hv
    exact ⟨g, t, #[x], 1, [], q, hg, ht, hv', trod_held hms hix 0, vars_keep hB hall.2 hq, e⟩
  | [], _ :: _, _, _, h => h.elim
  | _ :: _, [], _, _, h => h.elim
theorem Trod_stay (hB : Below W.heap.size W W') {base : Nat} {sp : Nat → Bool} {hd : Bool} {t : TypeId} {v : Value} {d : DataW H} {ps : List MemPlace} (h : DataW.Trod enc P W base sp hd t v d ps) : DataW.Trod enc P W' base sp hd t v d ps := by
  obtain ⟨n, hn⟩ := h
  exact ⟨n, DataW.trod_carry n _ _ _ hn (fun p hp => hB.same (DataW.trod_lt n _ _ _ hn p hp))⟩
theorem TrodAll_stay (hB : Below W.heap.size W W') {base : Nat} {sp : Nat → Bool} {hd : Bool} : ∀ {ts : List TypeId} {vs : List Value} {ds : List (DataW H)} {ps : List MemPlace}, DataW.TrodAll enc P W base sp hd ts vs ds ps → DataW.TrodAll enc P W' base sp hd ts vs ds ps
  | [], [], [], _, h => h
  | _ :: _, _ :: _, _ :: _, _, ⟨p, q, h1, h2, e⟩ => ⟨p, q, Trod_stay hB h1, TrodAll_stay hB h2, e⟩
theorem trodVars_len : ∀ {ns : List String} {gs : List (DataW H)} {ps : List MemPlace} {sp : Nat → Bool}, DataW.TrodVars enc P W sp ns gs ps → gs.length = ns.length
  | [], [], _, _, _ => rfl
  | n :: ns, d :: ds, ps, _, ⟨g, t, cs, fuel, p, q, hg, ht, hv, hd, hq, e⟩ => by simp [trodVars_len hq]
  | [], _ :: _, _, _, h => h.elim
  | _ :: _, [], _, _, h => h.elim
theorem trodAll_len : ∀ {ts : List TypeId} {vs : List Value} {ds : List (DataW H)} {ps : List MemPlace} {base : Nat} {sp : Nat → Bool} {hd : Bool}, DataW.TrodAll enc P W base sp hd ts vs ds ps → vs.length = ts.length ∧ ds.length = ts.length
  | [], [], [], _, _, _, _, _ => ⟨rfl, rfl⟩
  | _ :: _, _ :: _, _ :: _, _, _, _, _, ⟨p, q, h1, h2, e⟩ => by have := trodAll_len h2; simp [this.1, this.2]
end
/-- A law that answers true and leaves memory as it was meets what its row asks behind the call. -/
theorem post_keep {H : Type} {enc : TypeId × Value → H} {fn : Func} {s : ChangeSpec} {W W' : World} {args : Array Value} {ds gs : List (DataW H)} {before : List MemPlace}
    (hW : DataW.Whole enc Tryz.prog fn.params.toList s.vars false W args.toList ds gs before) (hB : Below W.heap.size W W') (hs : s.fn H (ds ++ gs) = { results := [.lit (.bool true)], args := ds, vars := gs }) (hr : fn.resultTypes = #[4])
    (hv : s.vars.all (ifaceVar Tryz.prog) = true) (hp : ∀ t ∈ fn.params.toList, t < Tryz.prog.types.size) :
    s.post enc Tryz.prog fn false true false false W args (.bool true) W' := by
  have hW' := hW
  have hlt := hW.lt
  obtain ⟨p, q, hA, hV, rfl, hfz, hnd⟩ := hW
  refine ⟨ds, gs, p ++ q, [], p, q, hW', ?_, ?_, ?_, hB.frame _, fun h => by cases h⟩
  · rw [hs, hr]; exact trodAll_mk1 (shut_bool Tryz.underlying4 true)
  · rw [hs]
    exact TrodAll_stay hB (hA.respare tz_kids tz_full hp fun x hx => decide_eq_true (hlt x (List.mem_append_left _ hx)))
  · rw [hs]
    exact vars_keep hB hv hV
/-! ### Memory in parts, and whole again -/
/-- All of a world but these blocks. -/
def RestA (W : World) (out : List Nat) : Asn := fun h => h = fun k => if k ∈ out then none else W.heap[k]?
def gOf (W : World) : Gst := ⟨W.os, W.tape, W.output⟩
theorem sat_none {W : World} : Sat (gOf W) W [RestA W []] := by
  refine ⟨rfl, rfl, rfl, fun k => W.heap[k]?, fun _ => none, fun k => .inr rfl, ?_, ?_, trivial⟩
  · funext k; simp [Hp.un]
  · show (fun k => W.heap[k]?) = _; funext k; simp
theorem sat_one {W : World} {b : Nat} {o : Obj} (h : W.heap[b]? = some o) : Sat (gOf W) W [blk b o, RestA W [b]] := by
  refine ⟨rfl, rfl, rfl, fun k => if k = b then some o else none, fun k => if k ∈ [b] then none else W.heap[k]?, ?_, ?_, rfl, _, fun _ => none, fun k => .inr rfl, ?_, rfl, trivial⟩
  · intro k
    by_cases hk : k = b
    · right; simp [hk]
    · left; simp [hk]
  · funext k
    by_cases hk : k = b
    · subst hk; simp [Hp.un, h]
    · simp [Hp.un, hk]
  · funext k; simp [Hp.un]
theorem sat_two {W : World} {a b : Nat} {o o' : Obj} (ha : W.heap[a]? = some o) (hb : W.heap[b]? = some o') (hne : a ≠ b) : Sat (gOf W) W [blk a o, blk b o', RestA W [a, b]] := by
  refine ⟨rfl, rfl, rfl, fun k => if k = a then some o else none, fun k => if k = a then none else W.heap[k]?, ?_, ?_, rfl, fun k => if k = b then some o' else none, fun k => if k ∈ [a, b] then none else W.heap[k]?, ?_, ?_, rfl, _, fun _ => none, fun k => .inr rfl, ?_, rfl, trivial⟩
  · intro k
    by_cases hk : k = a
    · right; simp [hk]
    · left; simp [hk]
  · funext k
    by_cases hk : k = a
    · subst hk; simp [Hp.un, ha]
    · simp [Hp.un, hk]
  · intro k
    by_cases hk : k = b
    · right; simp [hk]
    · left; simp [hk]
  · funext k
    by_cases hk : k = b
    · subst hk; simp [Hp.un, hb, Ne.symm hne]
    · by_cases hk2 : k = a
      · simp [Hp.un, hk, hk2, hne]
      · simp [Hp.un, hk, hk2]
  · funext k; simp [Hp.un]
theorem below_of {W W' : World} (ho : W'.os = W.os) (ht : W'.tape = W.tape) (hu : W'.output = W.output) (hb : ∀ k, k < W.heap.size → W'.heap[k]? = W.heap[k]?) : Below W.heap.size W W' := by
  refine ⟨ho, ht, hu, ?_, hb⟩
  rcases Nat.eq_zero_or_pos W.heap.size with h0 | h0
  · rw [h0]; exact Nat.zero_le _
  · have h1 := hb (W.heap.size - 1) (by omega)
    rw [Array.getElem?_eq_getElem (by omega : W.heap.size - 1 < W.heap.size)] at h1
    have := (Array.getElem?_eq_some_iff.1 h1).1
    omega
theorem rest_keep {W W' : World} {out : List Nat} {l : List Asn} (h : Sat (gOf W) W' (RestA W out :: l)) : ∀ k, k < W.heap.size → k ∉ out → W'.heap[k]? = W.heap[k]? := by
  intro k hk hn
  obtain ⟨h1, h2, hd, e, hA, _⟩ := h.mem
  have hk2 := congrFun e k
  simp only [Hp.un] at hk2
  have hA' : h1 = fun k => if k ∈ out then none else W.heap[k]? := hA
  subst hA'
  rw [hk2]
  simp only [hn, if_false]
  rw [Array.getElem?_eq_getElem hk]; rfl
theorem below_none {W W' : World} (hs : Sat (gOf W) W' [RestA W []]) : Below W.heap.size W W' :=
  below_of hs.os hs.tape hs.output fun k hk => rest_keep hs k hk (by simp)
theorem below_one {W W' : World} {b : Nat} {o : Obj} (h : W.heap[b]? = some o) (hs : Sat (gOf W) W' [blk b o, RestA W [b]]) : Below W.heap.size W W' := by
  refine below_of hs.os hs.tape hs.output fun k hk => ?_
  by_cases hkb : k = b
  · subst hkb; rw [h]; exact hs.block
  · exact rest_keep hs.drop k hk (by simp [hkb])
theorem below_two {W W' : World} {a b : Nat} {o o' : Obj} (ha : W.heap[a]? = some o) (hb : W.heap[b]? = some o') (hs : Sat (gOf W) W' [blk a o, blk b o', RestA W [a, b]]) : Below W.heap.size W W' := by
  refine below_of hs.os hs.tape hs.output fun k hk => ?_
  by_cases hka : k = a
  · subst hka; rw [ha]; exact hs.block
  by_cases hkb : k = b
  · subst hkb; rw [hb]; exact hs.drop.block
  · exact rest_keep hs.drop.drop k hk (by simp [hka, hkb])
end Go.Proofs.YtfpepghmbeoanaaGreatDoor
