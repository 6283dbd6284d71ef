/-
Small tactics for the steps.
More laws: make, slices, built values, maps.
More closed facts on the program's types.
More laws: copy.
More laws: a result that is a variable's whole, slices of arrays.
More laws: interfaces asserted, methods as values, functions that a variable holds, strings.
More laws: a deferred call that finds nothing to recover, append of zeros, rows opened.
! The range coder over plain numbers: what the coder of bits puts, the decoder reads.
-/
import Derived.Test.YtfpepghmbeoanaaGreatDoorP02
import Derived.MapKept
import Derived.Laws.Tables
import Derived.Laws.MakeOwn
import Derived.Laws.Slices
import Derived.Laws.CopyRow
import Derived.Laws.IdiomCopy
import Derived.Stop.Asserts
import Derived.Laws.IdiomStrings
import Derived.Laws.Cover3
import Derived.Lib.AppendZeros
import Derived.Lib.ByteType
import Derived.Tactics
import Derived.Tactics2
import Derived.Defers
import Derived.Recover
set_option linter.unusedSimpArgs false
set_option linter.unusedVariables false
section
open Go Go.RowKit
namespace Go.Proofs.YtfpepghmbeoanaaGreatDoor
def lk : List (Nat × Value) → Nat → Option Value
  | [], _ => none
  | (k, v) :: l, t => bif Nat.beq k t then some v else lk l t
theorem Lk.find {t : Nat} {v : Value} : ∀ {L : List (Nat × Value)}, lk L t = some v → Lk L t v
  | [], h => by simp [lk] at h
  | (k, u) :: l, h => by
    unfold lk at h
    cases hb : Nat.beq k t with
    | true =>
      rw [hb] at h
      have e := Nat.eq_of_beq_eq_true hb
      subst e
      have : u = v := by simpa using h
      subst this
      exact Lk.here
    | false => rw [hb] at h; exact Lk.there hb (Lk.find (by simpa using h))
theorem xlk {L : List (Nat × Value)} {t : Nat} {u v : Value} (h : lk L t = some u := by exact rfl) (e : u = v := by with_reducible exact rfl) : Lk L t v := e ▸ Lk.find h
theorem xe {n : Nat} {base : Nat → Value} {L : List (Nat × Value)} {t : Nat} {u v : Value} (h : lk L t = some u := by exact rfl) (e : u = v := by with_reducible exact rfl) (ht : Nat.blt t n = true := by exact rfl) : ev n base L (.tmp t) = v := (xlk h e).ev ht
theorem xpick {p : Prop} (h : p := by first | with_reducible exact Pick.here | (with_reducible apply Pick.there; exact xpick) | fail) : p := h
theorem xix {p : Prop} (h : p := by first | exact Ix.zero | (apply Ix.succ; exact xix) | fail) : p := h
theorem xrow {p : Prop} (h : p := by first | with_reducible assumption | exact Ix.get xix | assumption | fail) : p := h
theorem xnorm {p : Prop} (h : p := by first | (simp only [List.setIfInBounds_toArray, List.set_cons_zero, List.set_cons_succ]; rfl) | rfl | fail) : p := h
theorem xoff {p : Prop} (h : p := by first | (simp only [Nat.zero_add, Nat.reduceAdd]; rfl) | rfl | fail) : p := h
theorem xsize {p : Prop} (h : p := by first | with_reducible assumption | exact lt_ble rfl | assumption | omega | (simp; omega) | fail) : p := h
theorem xmult {p : Prop} (h : p := by first | (simp only [Nat.zero_add, Nat.mul_one, Nat.reduceAdd, Nat.reduceMul]; rfl) | rfl | fail) : p := h
theorem xidx {p : Prop} (h : p := by first | with_reducible rfl | exact (Int.natCast_add _ _).symm | exact (Int.natCast_succ _).symm | rfl | omega | fail) : p := h
/-! ### Cells that are the same -/
theorem vcons {a b : Value} {l m : List Value} (h : a = b) (k : l = m) : a :: l = b :: m := h ▸ k ▸ rfl
theorem vint {k : IntKind} {a b : Int} (h : a = b) : Value.int k a = Value.int k b := h ▸ rfl
theorem vbool {a b : Bool} (h : a = b) : Value.bool a = Value.bool b := h ▸ rfl
theorem varr {l m : List Value} (h : l = m) : l.toArray = m.toArray := h ▸ rfl
theorem tup2 {a b a' b' : Value} (h : a = a') (k : b = b') : Value.tuple #[a, b] = Value.tuple #[a', b'] := h ▸ k ▸ rfl
theorem tup3 {a b c a' b' c' : Value} (h : a = a') (k : b = b') (l : c = c') : Value.tuple #[a, b, c] = Value.tuple #[a', b', c'] := h ▸ k ▸ l ▸ rfl
/-- One value. -/
theorem xval {p : Prop} (h : p := by first | rfl | (refine vint ?_; first | omega | (push_cast; omega) | (simp; done) | (simp; omega)) | (simp; done) | assumption | fail) : p := h
theorem xvals {p : Prop} (h : p := by first | with_reducible rfl | (refine vcons xval ?_; exact xvals) | fail) : p := h
theorem xcells {p : Prop} (h : p := by first | (refine varr ?_; exact xvals) | (congr 1; exact xval) | fail) : p := h
abbrev vu8 (x : Nat) : Value := .int .u8 (x : Int)
/-- Bytes as cells. -/
def u8s (l : List Nat) : List Value := l.map vu8
theorem u8s_len (l : List Nat) : (u8s l).length = l.length := by simp [u8s]
theorem u8s_append (a b : List Nat) : u8s (a ++ b) = u8s a ++ u8s b := by simp [u8s]
theorem u8s_one {l : List Nat} : ∀ v ∈ u8s l, v.oneCell' = true := by simp [u8s, Value.oneCell']
theorem u8s_snoc {a : List Nat} {x : Nat} {y : Int} (h : y = x) : u8s a ++ [.int .u8 y] = u8s (a ++ [x]) := by subst h; simp [u8s]
theorem row_eq {e : TypeId} {v : Value} {xs ys : List Value} (h : xs = ys) : Row e v xs = Row e v ys := h ▸ rfl
theorem rowslice_eq {e : TypeId} {a : Option Addr} {n m c : Nat} {xs ys : List Value} (hn : n = m) (h : xs = ys) : Row e (.slice a n c) xs = Row e (.slice a m c) ys := hn ▸ h ▸ rfl


theorem Picks.celE {b : Nat} {T : TypeId} {cs cs' : Array Value} {p l l1 r : List Asn} (h : Pick (cel b T cs') l l1) (e : cs' = cs) (k : Picks p l1 r) : Picks (cel b T cs :: p) l r := e ▸ .cons h k
theorem Picks.rowE {t : TypeId} {v : Value} {xs xs' : List Value} {p l l1 r : List Asn} (h : Pick (Row t v xs') l l1) (e : xs' = xs) (k : Picks p l1 r) : Picks (Row t v xs :: p) l r := e ▸ .cons h k
theorem xxs {p : Prop} (h : p := by first | rfl | assumption | (simp only [u8s, List.map_append, List.map_cons, List.map_nil, List.append_assoc, List.cons_append, List.nil_append, List.append_nil, List.replicate_zero, List.map_replicate]; done) | (simp [u8s]; done) | fail) : p := h
theorem xpicks {p : Prop} (h : p := by first | with_reducible exact Picks.nil | (with_reducible apply Picks.cons; (focus exact xpick); (focus exact xpicks)) | (apply Picks.celE; (focus exact xpick); (focus exact xcells); (focus exact xpicks)) | (apply Picks.rowE; (focus exact xpick); (focus exact xxs); (focus exact xpicks)) | (apply Picks.ex; dsimp only [List.cons_append, List.nil_append]; exact xpicks) | fail) : p := h
/-- What is held, made ready and picked. -/
theorem xpk {p : Prop} (h : p := by (try dsimp only [List.cons_append, List.nil_append]); exact xpicks) : p := h
theorem xagree {p : Prop} (h : p := by first | exact Agree.nil | (refine Agree.eq xlk xval ?_; exact xagree) | fail) : p := h
theorem xag {p : Prop} (h : p := by (try dsimp only); exact xagree) : p := h
theorem r_i64 {x : Int} (h : 0 ≤ x ∧ x ≤ 9223372036854775807) : 0 ≤ x ∧ x.toNat < 2 ^ IntKind.i64.bits := ⟨h.1, by simp only [IntKind.bits]; omega⟩
section
variable {P : Program} {G : Gst} {n : Nat} {base : Nat → Value} {L : List (Nat × Value)} {As : List Asn}
theorem Py.to {op : Op} {v v' : Value} (h : Py P G n base L As op v) (e : v = v') : Py P G n base L As op v' := e ▸ h
/-- A shift to the right by a count that is known as a number. -/
theorem Py.shrN (s : Nat) {xt yt : TypeId} {x y : Operand} {k j : IntKind} {a : Nat} {b : Int} (hx : ev n base L x = .int k (a : Int)) (hy : ev n base L y = .int j b) (hs : b = s) (hb : s ≤ k.bits) :
    Py P G n base L As (.binOp .shr xt x y yt) (.int k ((a / 2 ^ s : Nat) : Int)) :=
  (Py.shr s (2 ^ s) hx hy hs hb rfl (Int.pow_nonneg (by decide))).to (by simp)
theorem Py.shlN (s : Nat) {xt yt : TypeId} {x y : Operand} {k j : IntKind} {a b : Int} {c : Int} (hx : ev n base L x = .int k a) (hy : ev n base L y = .int j b) (hs : b = s) (hb : s ≤ k.bits) (hc : k.wrap (a * 2 ^ s) = c) :
    Py P G n base L As (.binOp .shl xt x y yt) (.int k c) := Py.shl s (2 ^ s) hx hy hs hb rfl hc
end
section
variable {P : Program} {G : Gst} {ops : Array Oper} {Q : Exit → Act → World → Prop} {n : Nat} {base : Nat → Value} {L : List (Nat × Value)} {D : List Deferred} {As r : List Asn}
  {ty : TypeId} {pos : String} {aft : Array Edge} {rest : List Oper}
theorem JO.boxA {t : TypeId} {d : Nat} {x : Operand} {cs : Array Value} (hx : ev n base L x = .agg cs) (k : ∀ b, JO P G ops Q rest n base ((d, .pointer (some ⟨b, 0, none⟩)) :: L) D (cel b t cs :: As)) :
    JO P G ops Q (⟨some d, .box t x, ty, pos, aft, none⟩ :: rest) n base L D As := JO.box hx rfl k
theorem JO.box1 {t : TypeId} {d : Nat} {x : Operand} {v : Value} (hx : ev n base L x = v) (h1 : v.oneCell' = true) (k : ∀ b, JO P G ops Q rest n base ((d, .pointer (some ⟨b, 0, none⟩)) :: L) D (cel b t #[v] :: As)) :
    JO P G ops Q (⟨some d, .box t x, ty, pos, aft, none⟩ :: rest) n base L D As := JO.box hx (cells_one h1) k
theorem JO.allocA {t : TypeId} {d : Nat} {cs : Array Value} (hz : Zer P t (.agg cs)) (k : ∀ b, JO P G ops Q rest n base ((d, .pointer (some ⟨b, 0, none⟩)) :: L) D (cel b t cs :: As)) :
    JO P G ops Q (⟨some d, .alloc t, ty, pos, aft, none⟩ :: rest) n base L D As := JO.alloc hz rfl k
theorem JO.alloc1 {t : TypeId} {d : Nat} {z : Value} (hz : Zer P t z) (h1 : z.oneCell' = true) (k : ∀ b, JO P G ops Q rest n base ((d, .pointer (some ⟨b, 0, none⟩)) :: L) D (cel b t #[z] :: As)) :
    JO P G ops Q (⟨some d, .alloc t, ty, pos, aft, none⟩ :: rest) n base L D As := JO.alloc hz (cells_one h1) k
end
/-- A cut behind a piece of code: what is known there. -/
theorem JC.mid {P : Program} {G : Gst} {Q : Exit → Act → World → Prop} {n : Nat} {base : Nat → Value} {L : List (Nat × Value)} {D : List Deferred} {As : List Asn} {ι : Type} {x : Code} (Li : ι → List (Nat × Value)) (Ai : ι → List Asn)
    (h1 : JC P G (Exit.then (fun a w => ∃ (i : ι) (base' : Nat → Value), a = frm n base' (Li i) D ∧ Sat G w (Ai i)) Q) x n base L D As)
    (h2 : ∀ (i : ι) (base' : Nat → Value), JX G Q .normal n base' (Li i) D (Ai i)) : JC P G Q x n base L D As :=
  ⟨fun w hw => wp_mono (h1.run w hw) fun e a w' hq => by
    cases e with
    | normal => obtain ⟨i, base', rfl, hs⟩ := hq; exact (h2 i base').run w' hs
    | _ => exact hq⟩
section
variable {P : Program} {G : Gst} {n : Nat} {base : Nat → Value} {L : List (Nat × Value)} {As : List Asn}
/-- Bits of numbers of 64 bits that are not below nought. -/
theorem Py.orS {xt yt : TypeId} {x y : Operand} {a b : Int} (hx : ev n base L x = .int .i64 a) (hy : ev n base L y = .int .i64 b) (ha : 0 ≤ a ∧ a ≤ 9223372036854775807) (hb : 0 ≤ b ∧ b ≤ 9223372036854775807) :
    Py P G n base L As (.binOp .or xt x y yt) (.int .i64 ((a.toNat ||| b.toNat : Nat) : Int)) :=
  Py.or hx hy (r_i64 ha) (r_i64 hb) (w_i64 (by have := Nat.or_lt_two_pow (x := a.toNat) (y := b.toNat) (n := 63) (by omega) (by omega); omega))
theorem Py.xorS {xt yt : TypeId} {x y : Operand} {a b : Int} (hx : ev n base L x = .int .i64 a) (hy : ev n base L y = .int .i64 b) (ha : 0 ≤ a ∧ a ≤ 9223372036854775807) (hb : 0 ≤ b ∧ b ≤ 9223372036854775807) :
    Py P G n base L As (.binOp .xor xt x y yt) (.int .i64 ((a.toNat ^^^ b.toNat : Nat) : Int)) :=
  Py.xor hx hy (r_i64 ha) (r_i64 hb) (w_i64 (by have := Nat.xor_lt_two_pow (x := a.toNat) (y := b.toNat) (n := 63) (by omega) (by omega); omega))
theorem Py.andS {xt yt : TypeId} {x y : Operand} {a b : Int} (hx : ev n base L x = .int .i64 a) (hy : ev n base L y = .int .i64 b) (ha : 0 ≤ a ∧ a ≤ 9223372036854775807) (hb : 0 ≤ b ∧ b ≤ 9223372036854775807) :
    Py P G n base L As (.binOp .and xt x y yt) (.int .i64 ((a.toNat &&& b.toNat : Nat) : Int)) :=
  Py.and hx hy (r_i64 ha) (r_i64 hb) (w_i64 (by have := Nat.and_lt_two_pow a.toNat (y := b.toNat) (n := 63) (by omega); omega))
end
/-- A contract by another. -/
theorem Con.conseq {P : Program} {G : Gst} {f : FuncId} {args : Array Value} {Pre Pre' : List Asn} {ι ι' : Type} {v : ι → Value} {v' : ι' → Value} {Post : ι → List Asn} {Post' : ι' → List Asn} (h : Con P G f args Pre v Post)
    (k : ∀ F w, Sat G w (Pre' ++ [F]) → ∃ F', Sat G w (Pre ++ [F']) ∧ ∀ i w', Sat G w' (Post i ++ [F']) → ∃ j, v i = v' j ∧ Sat G w' (Post' j ++ [F])) : Con P G f args Pre' v' Post' :=
  ⟨h.1, fun F w hw => by
    obtain ⟨F', hw', hk⟩ := k F w hw
    refine (h.2 F' w hw').mono ?_
    rintro e w'' ⟨i, rfl, hs⟩
    obtain ⟨j, hj, hs'⟩ := hk i w'' hs
    exact ⟨j, by rw [hj], hs'⟩⟩
end Go.Proofs.YtfpepghmbeoanaaGreatDoor
end

section
open Go Go.RowKit Go.MapKept
set_option linter.unusedSimpArgs false
namespace Go.Proofs.YtfpepghmbeoanaaGreatDoor
section
variable {P : Program} {G : Gst} {ops : Array Oper} {Q : Exit → Act → World → Prop} {n : Nat} {base : Nat → Value} {L : List (Nat × Value)} {D : List Deferred} {As r : List Asn}
  {ty : TypeId} {pos : String} {aft : Array Edge} {rest : List Oper}
/-- 'make([]T, n, m)' of one-cell elements. -/
theorem run_mkslice {t e : TypeId} {z : Value} {bytes m c : Nat} {k k' : IntKind} {w : World} (ht : P.underlying t = some (.slice e)) (he : Elm P e z bytes) (hmc : m ≤ c) (hb : c * bytes ≤ 281474976710656) (hc : c ≤ 281474976710656) :
    (Instr.makeSlice t (.int k (m : Int)) (.int k' (c : Int))).run P w = .ok (.slice (some ⟨w.heap.size, 0, none⟩) m c) (w.alloc (.cells (Array.replicate c z) e)) := by
  obtain ⟨i, hi, hz, hs, hib⟩ := he.inf
  have hb' : (i.bytes : Int) * (c : Int) ≤ 281474976710656 := by
    have h : ((i.bytes * c : Nat) : Int) ≤ 281474976710656 := by rw [hib, Nat.mul_comm]; omega
    rwa [Int.natCast_mul] at h
  have hr := run_make (P := P) w t e i z ht hi hz k k' m c (by omega) (by omega) hb' (by omega)
  rw [hr, Int.toNat_natCast, Int.toNat_natCast, hs, Nat.mul_one, cells_one he.one]
  congr 3
  apply Array.ext
  · simp [madeCells]
  · intro j h1 h2; simp [madeCells, Nat.mod_one]
theorem JO.mkslice {t e : TypeId} {d : Nat} {x y : Operand} {z : Value} {bytes m c : Nat} {k k' : IntKind} {mi ci : Int} (ht : P.underlying t = some (.slice e)) (he : Elm P e z bytes) (hx : ev n base L x = .int k mi) (hy : ev n base L y = .int k' ci) (hm : mi = (m : Int)) (hci : ci = (c : Int)) (hmc : m ≤ c) (hb : c * bytes ≤ 281474976710656) (hc : c ≤ 281474976710656)
    (kk : ∀ b, JO P G ops Q rest n base ((d, .slice (some ⟨b, 0, none⟩) m c) :: L) D (cel b e (Array.replicate c z) :: As)) :
    JO P G ops Q (⟨some d, .makeSlice t x y, ty, pos, aft, none⟩ :: rest) n base L D As := by
  subst hm hci
  refine ⟨fun w hw => ?_⟩
  refine wpList_plain rfl fun K hK => ?_
  show Oper.upon P _ _ _ _ _
  have e : (execOp (frm n base L D).eval ⟨some d, .makeSlice t x y, ty, pos, aft, none⟩).run P w = .ok (.value (.slice (some ⟨w.heap.size, 0, none⟩) m c)) (w.alloc (.cells (Array.replicate c z) e)) := by
    rw [frm_eval]
    simp [execOp, hx, hy, run_mkslice ht he hmc hb hc]
  rw [e]
  show K _ _
  rw [show (frm n base L D).put _ _ = _ from frm_put d _]
  exact hK _ _ ((kk _).run _ (hw.alloc _))

theorem Py.extrI {x : Operand} {i : Nat} {l : List Value} {v : Value} (hx : ev n base L x = .tuple l.toArray) (h : Ix l i v) : Py P G n base L As (.extract x i) v := by
  refine ⟨fun w _ o ho => ?_⟩
  have := h.get
  simp [execOp, ho, hx, Instr.extract] at this ⊢
  simp [this]
/-- A whole variable is stored. -/
theorem JO.storeW {t : TypeId} {x y : Operand} {b m : Nat} {T : TypeId} {cs vs : Array Value} (hz : Siz P t m) (hx : ev n base L x = .pointer (some ⟨b, 0, none⟩)) (hy : ev n base L y = .agg vs) (hm : vs.size = m) (h1 : ∀ v ∈ vs.toList, v.oneCell' = true)
    (q : Pick (cel b T cs) As r) (hi : cs.size = m) (k : JO P G ops Q rest n base L D (cel b T vs :: r)) :
    JO P G ops Q (⟨none, .store t x y, ty, pos, aft, none⟩ :: rest) n base L D As := by
  subst hm
  exact JO.storeA hz hx hy h1 q (by omega) (by rw [putAll_whole _ _ (by rw [hi]; simp)]) k
/-- Nothing is held. -/
theorem JC.free {A : Asn} (hA : A fun _ => none) {c : Code} (k : JC P G Q c n base L D (A :: As)) : JC P G Q c n base L D As :=
  ⟨fun w hw => k.run w (hw.of fun hs => ⟨fun _ => none, _, fun _ => .inl rfl, by funext k; simp [Hp.un], hA, hs⟩)⟩
theorem JO.free {A : Asn} (hA : A fun _ => none) {l : List Oper} (k : JO P G ops Q l n base L D (A :: As)) : JO P G ops Q l n base L D As :=
  ⟨fun w hw => k.run w (hw.of fun hs => ⟨fun _ => none, _, fun _ => .inl rfl, by funext k; simp [Hp.un], hA, hs⟩)⟩
/-! ### Slices of slices -/
/-- A bound that may be left out. -/
inductive Bd (n : Nat) (base : Nat → Value) (L : List (Nat × Value)) (dflt : Nat) : Option Operand → Nat → Prop
  | none : Bd n base L dflt none dflt
  | some {x : Operand} {k : IntKind} {i : Int} {j : Nat} : ev n base L x = .int k i → i = (j : Int) → Bd n base L dflt (some x) j
theorem run_slc {t e : TypeId} {sz b o len cap l h : Nat} {lo hi : Option Operand} {w : World} (ht : P.underlying t = some (.slice e)) (hz : Siz P e sz) (hlo : Bd n base L 0 lo l) (hhi : Bd n base L len hi h) (hl : l ≤ h) (hh : h ≤ cap) :
    (Instr.sliceAt t (.slice (some ⟨b, o, none⟩) len cap) (lo.map (ev n base L)) (hi.map (ev n base L)) none).run P w = .ok (.slice (some ⟨b, if cap = l then o else o + l * sz, none⟩) (h - l) (cap - l)) w := by
  have hz' := hz w
  have hfin : (if cap = l then (some ⟨b, o, none⟩ : Option Addr) else Option.map (fun (x : Addr) => x.add (l * sz)) (some ⟨b, o, none⟩)) = some ⟨b, if cap = l then o else o + l * sz, none⟩ := by
    split <;> simp [add_off]
  have hfin2 : (if cap = l then (some ⟨b, o, none⟩ : Option Addr) else some ((⟨b, o, none⟩ : Addr).add (l * sz))) = some ⟨b, if cap = l then o else o + l * sz, none⟩ := by
    split <;> simp [add_off]
  have hb : ∀ {x : Operand} {k : IntKind} {i : Int} {j y : Nat} {code : BoundsCode}, ev n base L x = .int k i → i = (j : Int) → j ≤ y → (Instr.sliceBound (ev n base L x) y code).run P w = .ok j w := by
    intro x k i j y code hx hi hj
    subst hi
    rw [hx]
    exact run_sliceBound w k (j : Int) _ _ (by omega) (by omega)
  unfold Instr.sliceAt
  simp only [Sem.run_bind, run_underlying ht, Result.andThen_ok]
  unfold Instr.slice
  simp only [Sem.run_bind, run_underlying ht, Result.andThen_ok]
  unfold Instr.sliceBounds
  cases hhi with
  | none =>
    cases hlo with
    | none => simp only [Option.map_none, Sem.run_bind, Sem.run_pure, Result.andThen_ok, hz', hfin, hfin2]
    | some hx hi' => simp only [Option.map_none, Option.map_some, Sem.run_bind, Sem.run_pure, Result.andThen_ok, hb hx hi' hl, hz', hfin, hfin2]
  | some hy hj =>
    cases hlo with
    | none => simp only [Option.map_none, Option.map_some, Sem.run_bind, Sem.run_pure, Result.andThen_ok, hb hy hj hh, hz', hfin, hfin2]
    | some hx hi' => simp only [Option.map_none, Option.map_some, Sem.run_bind, Sem.run_pure, Result.andThen_ok, hb hy hj hh, hb hx hi' hl, hz', hfin, hfin2]
theorem Py.slc {t e : TypeId} {x : Operand} {sz b o len cap l h : Nat} {lo hi : Option Operand} (ht : P.underlying t = some (.slice e)) (hz : Siz P e sz) (hx : ev n base L x = .slice (some ⟨b, o, none⟩) len cap) (hlo : Bd n base L 0 lo l) (hhi : Bd n base L len hi h) (hl : l ≤ h) (hh : h ≤ cap) (hlt : l < cap) {p : Nat} (hp : o + l * sz = p) {q c : Nat} (hq : h - l = q) (hc : cap - l = c) :
    Py P G n base L As (.slice t x lo hi none) (.slice (some ⟨b, p, none⟩) q c) := by
  refine ⟨fun w _ o' ho => ?_⟩
  subst hp hq hc
  have := run_slc (P := P) (w := w) ht hz hlo hhi hl hh (b := b) (o := o)
  rw [if_neg (by omega)] at this
  simp [execOp, ho, hx, this]
/-- The end of what there is room for. -/
theorem Py.slcE {t e : TypeId} {x : Operand} {sz b o len cap l h : Nat} {lo hi : Option Operand} (ht : P.underlying t = some (.slice e)) (hz : Siz P e sz) (hx : ev n base L x = .slice (some ⟨b, o, none⟩) len cap) (hlo : Bd n base L 0 lo l) (hhi : Bd n base L len hi h) (hl : l ≤ h) (hh : h ≤ cap) (hlt : l = cap) :
    Py P G n base L As (.slice t x lo hi none) (.slice (some ⟨b, o, none⟩) 0 0) := by
  refine ⟨fun w _ o' ho => ?_⟩
  have := run_slc (P := P) (w := w) ht hz hlo hhi hl hh (b := b) (o := o)
  rw [if_pos hlt.symm, show h - l = 0 by omega, show cap - l = 0 by omega] at this
  simp [execOp, ho, hx, this]
/-- Of nil. -/
theorem Py.slcN {t e : TypeId} {x : Operand} {sz : Nat} {lo hi : Option Operand} (ht : P.underlying t = some (.slice e)) (hz : Siz P e sz) (hx : ev n base L x = .slice none 0 0) (hlo : Bd n base L 0 lo 0) (hhi : Bd n base L 0 hi 0) :
    Py P G n base L As (.slice t x lo hi none) (.slice none 0 0) := by
  refine ⟨fun w _ o' ho => ?_⟩
  have hz' := hz w
  have : (Instr.sliceAt t (.slice none 0 0) (lo.map (ev n base L)) (hi.map (ev n base L)) none).run P w = .ok (.slice none 0 0) w := by
    simp only [Instr.sliceAt, Instr.slice, Instr.sliceBounds, Sem.run_bind, run_underlying ht, Result.andThen_ok, Sem.run_pure]
    cases hhi with
    | none =>
      cases hlo with
      | none => simp [hz']
      | some hx hi' => simp [hx, hi', Instr.sliceBound, asIntOf, hz']
    | some hy hj =>
      cases hlo with
      | none => simp [hy, hj, Instr.sliceBound, asIntOf, hz']
      | some hx hi' => simp [hx, hi', hy, hj, Instr.sliceBound, asIntOf, hz']
  simp [execOp, ho, hx, this]
/-- An element of an array's value. -/
theorem Py.index {t e : TypeId} {x y : Operand} {len : Nat} {cs : Array Value} {k : IntKind} {i : Int} {j : Nat} {v : Value} (ht : P.underlying t = some (.array len e)) (hz : Siz P e 1) (hs : Scal P e) (hx : ev n base L x = .agg cs) (hy : ev n base L y = .int k i) (hj : i = (j : Int)) (hi : j < len) (hv : cs[j]? = some v) :
    Py P G n base L As (.index t x y) v := by
  refine ⟨fun w _ o ho => ?_⟩
  subst hj
  have hz' := hz w
  have hs' := hs w
  have h1 : (0 : Int) ≤ (j : Int) ∧ (j : Int) < (len : Int) := ⟨by omega, by omega⟩
  simp [execOp, ho, hx, hy, Instr.index, asIntOf, run_underlying ht, hi, hz', part, hs', hv]

/-! ### Built values -/
/-- How a value of this type is built. -/
structure Bld (P : Program) (t : TypeId) (places : List (Nat × Nat)) (zs : Array Value) : Prop where
  run : ∀ parts cs, Instr.fill (fun i => places[i]?) zs parts = some cs → P.built t parts = some cs
theorem fill_mono {f g : Nat → Option (Nat × Nat)} (h : ∀ i x, f i = some x → g i = some x) : ∀ (l : List (Nat × Value)) (cs cs' : Array Value), Instr.fill f cs l = some cs' → Instr.fill g cs l = some cs'
  | [], _, _, hf => hf
  | (i, v) :: l, cs, cs', hf => by
    simp only [Instr.fill] at hf ⊢
    cases hi : f i with
    | none => simp [hi] at hf
    | some x =>
      simp only [hi] at hf
      simp only [h i x hi]
      split at hf
      · cases hf
      · rename_i hn
        rw [if_neg hn]
        exact fill_mono h l _ _ hf
theorem Bld.ofS {t : TypeId} {places : List (Nat × Nat)} {zs : Array Value} (hi : (P.info? t).map (·.zero) = some (some (.agg zs)))
    (hf : (match P.underlying t with | some (.struct fields) => fields.toList.mapM (fun f => (P.info? f.type).map fun i => (f.offset, i.size)) | _ => none) = some places) : Bld P t places zs := by
  refine ⟨fun parts cs h => ?_⟩
  obtain ⟨it, hit, hz⟩ := Option.map_eq_some_iff.1 hi
  cases hu : P.underlying t with
  | none => simp [hu] at hf
  | some d =>
    cases d <;> simp only [hu] at hf <;> try (cases hf; done)
    unfold Program.built
    simp only [hit, hu, hz, hf]
    simpa [Value.cells] using h
theorem Bld.ofA {t : TypeId} {k n : Nat} {zs : Array Value} (hi : (P.info? t).map (·.zero) = some (some (.agg zs)))
    (hf : (match P.underlying t with | some (.array _ e) => (P.info? e).map (·.size) | _ => none) = some k) : Bld P t ((List.range n).map fun i => (i * k, k)) zs := by
  refine ⟨fun parts cs h => ?_⟩
  obtain ⟨it, hit, hz⟩ := Option.map_eq_some_iff.1 hi
  cases hu : P.underlying t with
  | none => simp [hu] at hf
  | some d =>
    cases d <;> simp only [hu] at hf <;> try (cases hf; done)
    obtain ⟨ie, hie, hk⟩ := Option.map_eq_some_iff.1 hf
    unfold Program.built
    simp only [hit, hu, hz, hie]
    refine fill_mono (fun i x hx => ?_) _ _ _ h
    simp only [List.getElem?_map, Option.map_eq_some_iff] at hx
    obtain ⟨j, hj, rfl⟩ := hx
    have : j = i := by
      have := List.getElem?_eq_some_iff.1 hj
      obtain ⟨hlt, e⟩ := this
      simpa using e.symm
    rw [this, hk]
inductive Fl (places : List (Nat × Nat)) : Array Value → List (Nat × Value) → Array Value → Prop
  | nil {cs : Array Value} : Fl places cs [] cs
  | one {cs cs' cs'' : Array Value} {i off : Nat} {v : Value} {l : List (Nat × Value)} : places[i]? = some (off, 1) → v.oneCell' = true → off < cs.size → cs.setIfInBounds off v = cs' → Fl places cs' l cs'' → Fl places cs ((i, v) :: l) cs''
  | agg {cs cs' cs'' vs : Array Value} {i off k : Nat} {l : List (Nat × Value)} : places[i]? = some (off, k) → vs.size = k → off + k ≤ cs.size → putAll cs off vs.toList = cs' → Fl places cs' l cs'' → Fl places cs ((i, .agg vs) :: l) cs''
theorem fold_putAll : ∀ (l : List Value) (off k : Nat) (cs : Array Value), (l.zipIdx k).foldl (fun cs (c, j) => cs.setIfInBounds (off + j) c) cs = putAll cs (off + k) l
  | [], _, _, _ => rfl
  | v :: l, off, k, cs => by simp only [List.zipIdx_cons, List.foldl_cons, putAll]; rw [fold_putAll l off (k + 1)]; rfl
theorem Fl.fill {places : List (Nat × Nat)} {cs cs' : Array Value} {l : List (Nat × Value)} (h : Fl places cs l cs') : Instr.fill (fun i => places[i]?) cs l = some cs' := by
  induction h with
  | nil => rfl
  | one hp h1 ho hs _ ih =>
    simp only [Instr.fill, hp, cells_one h1]
    rw [if_neg (by simp; omega)]
    rw [show (#[_] : Array Value).zipIdx.foldl _ _ = _ from by simp; exact hs]
    exact ih
  | @agg cs cs2 cs3 vs i off k l hp hk ho hs _ ih =>
    have hc : (Value.agg vs).cells = vs := rfl
    simp only [Instr.fill, hp, hc]
    have hn : (decide (vs.size ≠ k) || decide (off + vs.size > cs.size)) = false := by simp [hk]; omega
    have : vs.zipIdx.foldl (fun cs (c, j) => cs.setIfInBounds (off + j) c) cs = putAll cs off vs.toList := by
      have := fold_putAll vs.toList off 0 cs
      rw [← Array.foldl_toList]
      simpa [Array.toList_zipIdx] using this
    rw [if_neg (by rw [hn]; simp), this, hs]
    exact ih
inductive Pts (n : Nat) (base : Nat → Value) (L : List (Nat × Value)) : List (Nat × Operand) → List (Nat × Value) → Prop
  | nil : Pts n base L [] []
  | cons {i : Nat} {x : Operand} {v : Value} {l : List (Nat × Operand)} {m : List (Nat × Value)} : ev n base L x = v → Pts n base L l m → Pts n base L ((i, x) :: l) ((i, v) :: m)
theorem Pts.map {l : List (Nat × Operand)} {m : List (Nat × Value)} (h : Pts n base L l m) : l.map (fun (i, x) => (i, ev n base L x)) = m := by
  induction h with
  | nil => rfl
  | cons h _ ih => simp [h, ih]
theorem Py.build {t : TypeId} {places : List (Nat × Nat)} {zs cs : Array Value} {l : List (Nat × Operand)} {m : List (Nat × Value)} (hb : Bld P t places zs) (hp : Pts n base L l m) (hf : Fl places zs m cs) :
    Py P G n base L As (.build t l.toArray) (.agg cs) := by
  refine ⟨fun w _ o ho => ?_⟩
  have h1 : (l.toArray.map fun (i, x) => (i, ev n base L x)) = m.toArray := by
    apply Array.ext'
    simp [← hp.map]
  have h2 : (Instr.build t m.toArray).run P w = .ok (.agg cs) w := run_build w t _ _ (hb.run _ _ (by simpa using hf.fill))
  simp only [execOp, ho]
  rw [h1]
  simp [h2]

/-! ### Maps of numbers -/
theorem JO.mkmap {t : TypeId} {d : Nat} (k : ∀ b, JO P G ops Q rest n base ((d, .map (some b)) :: L) D (blk b (.map #[] 0) :: As)) :
    JO P G ops Q (⟨some d, .makeMap t none, ty, pos, aft, none⟩ :: rest) n base L D As := by
  refine ⟨fun w hw => ?_⟩
  refine wpList_plain rfl fun K hK => ?_
  show Oper.upon P _ _ _ _ _
  have e : (execOp (frm n base L D).eval ⟨some d, .makeMap t none, ty, pos, aft, none⟩).run P w = .ok (.value (.map (some w.heap.size))) (w.alloc (.map #[] 0)) := by
    simp [execOp, Instr.makeMap]
  rw [e]
  show K _ _
  rw [show (frm n base L D).put _ _ = _ from frm_put d _]
  exact hK _ _ ((k _).run _ (hw.alloc _))
/-- A map from numbers of 64 bits to values that X holds of. -/
def MapI (b : Nat) (X : Value → Prop) : Asn := fun h => ∃ es clock, (∀ e ∈ es.toList, (∃ k : Int, e.key = .int .i64 k) ∧ X e.val) ∧ blk b (.map es clock) h
theorem MapI.new {b : Nat} {X : Value → Prop} {h : Hp} (hb : blk b (.map #[] 0) h) : MapI b X h := ⟨#[], 0, by simp, hb⟩
theorem MapI.mono {b : Nat} {X Y : Value → Prop} (hXY : ∀ v, X v → Y v) {h : Hp} (hb : MapI b X h) : MapI b Y h :=
  let ⟨es, c, he, hh⟩ := hb; ⟨es, c, fun e hm => ⟨(he e hm).1, hXY _ (he e hm).2⟩, hh⟩
theorem Sat.mapI {w : World} {b : Nat} {X : Value → Prop} (hw : Sat G w (MapI b X :: r)) : ∃ es clock, (∀ e ∈ es.toList, (∃ k : Int, e.key = .int .i64 k) ∧ X e.val) ∧ Sat G w (blk b (.map es clock) :: r) := by
  obtain ⟨h1, h2, hd, he, ⟨es, c, hes, hb⟩, hl⟩ := hw.mem
  exact ⟨es, c, hes, hw.os, hw.tape, hw.output, h1, h2, hd, he, hb, hl⟩
theorem Sat.toMapI {w : World} {b : Nat} {X : Value → Prop} {es : Array MapEntry} {clock : Nat} (hes : ∀ e ∈ es.toList, (∃ k : Int, e.key = .int .i64 k) ∧ X e.val) (hw : Sat G w (blk b (.map es clock) :: r)) : Sat G w (MapI b X :: r) := by
  obtain ⟨h1, h2, hd, he, hb, hl⟩ := hw.mem
  exact ⟨hw.os, hw.tape, hw.output, h1, h2, hd, he, ⟨es, clock, hes, hb⟩, hl⟩
theorem JO.lookup {t kt et : TypeId} {d : Nat} {x y : Operand} {b : Nat} {X : Value → Prop} {k : Int} {z : Value} (ht : P.underlying t = some (.map kt et)) (hk : P.underlying kt = some (.int .i64)) (hz : Zer P et z) (hx : ev n base L x = .map (some b)) (hy : ev n base L y = .int .i64 k) (q : Pick (MapI b X) As r)
    (kk : ∀ v ok, ((ok = true ∧ X v) ∨ (ok = false ∧ v = z)) → JO P G ops Q rest n base ((d, .tuple #[v, .bool ok]) :: L) D As) :
    JO P G ops Q (⟨some d, .lookup t x y true, ty, pos, aft, none⟩ :: rest) n base L D As := by
  refine ⟨fun w hw => ?_⟩
  refine wpList_plain rfl fun K hK => ?_
  show Oper.upon P _ _ _ _ _
  obtain ⟨es, c, hes, hw1⟩ := (hw.pick q).mapI
  have hb := hw1.block
  have hck : IsKey (.int .i64) (.int .i64 k) := by simp [IsKey]
  have hkeys : ∀ e ∈ es.toList, IsKey (.int .i64) e.key := fun e he => by obtain ⟨k', hk'⟩ := (hes e he).1; rw [hk']; simp [IsKey]
  have hc := fun em => run_checkKey (P := P) (w := w) hk hck em 9999
  have key : ∃ v ok, ((ok = true ∧ X v) ∨ (ok = false ∧ v = z)) ∧ (Instr.lookup t (.map (some b)) (.int .i64 k) true).run P w = .ok (.tuple #[v, .bool ok]) w := by
    rcases findNow_spec hck es.toList 0 hkeys with ⟨h1, _⟩ | ⟨j, e, h1, h2, h3⟩
    · have hf := run_findKey (P := P) (w := w) hk h1
      refine ⟨z, false, .inr ⟨rfl, rfl⟩, ?_⟩
      simp [Instr.lookup, run_underlying ht, MapKept.run_getObj_map hb, hc, hf, hz w]
    · have hf := run_findKey (P := P) (w := w) hk h1
      refine ⟨e.val, true, .inl ⟨rfl, (hes e (List.mem_of_getElem? h2)).2⟩, ?_⟩
      simp [Instr.lookup, run_underlying ht, MapKept.run_getObj_map hb, hc, hf]
  obtain ⟨v, ok, ho, hr⟩ := key
  have e : (execOp (frm n base L D).eval ⟨some d, .lookup t x y true, ty, pos, aft, none⟩).run P w = .ok (.value (.tuple #[v, .bool ok])) w := by
    rw [frm_eval]; simp [execOp, hx, hy, hr]
  rw [e]
  show K _ _
  rw [show (frm n base L D).put _ _ = _ from frm_put d _]
  exact hK _ _ ((kk v ok ho).run w hw)
theorem JO.mapup {t kt et : TypeId} {x y u : Operand} {b : Nat} {X : Value → Prop} {k : Int} {v : Value} (ht : P.underlying t = some (.map kt et)) (hk : P.underlying kt = some (.int .i64)) (hx : ev n base L x = .map (some b)) (hy : ev n base L y = .int .i64 k) (hu : ev n base L u = v) (hX : X v) (q : Pick (MapI b X) As r)
    (kk : JO P G ops Q rest n base L D (MapI b X :: r)) :
    JO P G ops Q (⟨none, .mapUpdate t x y u, ty, pos, aft, none⟩ :: rest) n base L D As := by
  refine ⟨fun w hw => ?_⟩
  refine wpList_plain rfl fun K hK => ?_
  show Oper.upon P _ _ _ _ _
  obtain ⟨es, c, hes, hw1⟩ := (hw.pick q).mapI
  have hb := hw1.block
  have hck : IsKey (.int .i64) (.int .i64 k) := by simp [IsKey]
  have hkeys : ∀ e ∈ es.toList, IsKey (.int .i64) e.key := fun e he => by obtain ⟨k', hk'⟩ := (hes e he).1; rw [hk']; simp [IsKey]
  have hc := fun em => run_checkKey (P := P) (w := w) hk hck em 9999
  have key : ∃ w', (Instr.mapUpdate t (.map (some b)) (.int .i64 k) v).run P w = .ok () w' ∧ Sat G w' (MapI b X :: r) := by
    rcases findNow_spec hck es.toList 0 hkeys with ⟨h1, _⟩ | ⟨j, e, h1, h2, h3⟩
    · have hf := run_findKey (P := P) (w := w) hk h1
      refine ⟨{ w with heap := w.heap.setIfInBounds b (.map (es.push { key := .int .i64 k, val := v, born := c }) (c + 1)) }, ?_, ?_⟩
      · simp [Instr.mapUpdate, run_underlying ht, MapKept.run_getObj_map hb, hc, hf, MapKept.run_setObj_map _ hb]
      · have hh := heap_set (o' := .map (es.push { key := .int .i64 k, val := v, born := c }) (c + 1)) hb
        refine Sat.toMapI (es := es.push { key := .int .i64 k, val := v, born := c }) (clock := c + 1) ?_ (hw1.turn rfl rfl rfl hh.2 hh.1)
        intro e he
        simp only [Array.toList_push, List.mem_append, List.mem_singleton] at he
        rcases he with he | rfl
        · exact hes e he
        · exact ⟨⟨k, rfl⟩, hX⟩
    · have hf := run_findKey (P := P) (w := w) hk h1
      have hj : es[j]? = some e := by simpa using h2
      have hsb : Instr.sameBits 10000 (.int .i64 k) (.int .i64 k) = true := by simp [Instr.sameBits]
      refine ⟨{ w with heap := w.heap.setIfInBounds b (.map (es.modify j fun e => { e with key := .int .i64 k, val := v }) c) }, ?_, ?_⟩
      · simp [Instr.mapUpdate, run_underlying ht, MapKept.run_getObj_map hb, hc, hf, MapKept.run_setObj_map _ hb, hj, h3, Instr.keyThatStays, hsb]
      · have hh := heap_set (o' := .map (es.modify j fun e => { e with key := .int .i64 k, val := v }) c) hb
        refine Sat.toMapI (clock := c) ?_ (hw1.turn rfl rfl rfl hh.2 hh.1)
        intro e' he'
        obtain ⟨i, hi⟩ := List.getElem?_of_mem he'
        rw [Array.getElem?_toList, Array.getElem?_modify] at hi
        by_cases hij : j = i
        · rw [if_pos hij] at hi
          cases hq : es[i]? with
          | none => simp [hq] at hi
          | some a => simp [hq] at hi; subst hi; exact ⟨⟨k, rfl⟩, hX⟩
        · rw [if_neg hij] at hi
          exact hes e' (List.mem_of_getElem? (by rw [Array.getElem?_toList]; exact hi))
  obtain ⟨w', hr, hw'⟩ := key
  have e : (execOp (frm n base L D).eval ⟨none, .mapUpdate t x y u, ty, pos, aft, none⟩).run P w = .ok .skip w' := by
    rw [frm_eval]; simp [execOp, hx, hy, hu, hr]
  rw [e]
  exact hK _ _ (kk.run w' hw')
end
theorem xfl {p : Prop} (h : p := by first | with_reducible exact Fl.nil | (apply Fl.one; (focus exact rfl); (focus (first | rfl | assumption | fail)); (focus (first | exact lt_ble rfl | (simp; done) | fail)); (focus exact xnorm); exact xfl) | (apply Fl.agg; (focus exact rfl); (focus (first | rfl | (simp; done) | assumption | fail)); (focus (first | exact Nat.le_of_ble_eq_true rfl | (simp; done) | fail)); (focus exact rfl); exact xfl) | fail) : p := h
end Go.Proofs.YtfpepghmbeoanaaGreatDoor
end

section
open Go Go.RowKit
namespace Go.Proofs.YtfpepghmbeoanaaGreatDoor
theorem bld119 : Bld Tryz.prog 119 [(0, 1), (1, 1)] #[Value.nilIface, Value.nilIface] := .ofS (by kernel_rfl) (by kernel_rfl)
theorem bld131 : Bld Tryz.prog 131 [(0, 1), (1, 1), (2, 1)] #[Value.slice none 0 0, Value.int IntKind.i64 0, Value.int IntKind.i8 0] := .ofS (by kernel_rfl) (by kernel_rfl)
theorem bld147 : Bld Tryz.prog 147 [(0, 1)] #[Value.int IntKind.i64 0] := .ofS (by kernel_rfl) (by kernel_rfl)
theorem bld154 : Bld Tryz.prog 154 [(0, 1), (1, 1)] #[Value.nilIface, Value.nilIface] := .ofS (by kernel_rfl) (by kernel_rfl)
theorem bld166 : Bld Tryz.prog 166 [(0, 1)] #[Value.int IntKind.i64 0] := .ofS (by kernel_rfl) (by kernel_rfl)
theorem bld173 : Bld Tryz.prog 173 [(0, 1), (1, 1), (2, 1)] #[Value.pointer none, Value.nilIface, Value.nilIface] := .ofS (by kernel_rfl) (by kernel_rfl)
theorem bld178 : Bld Tryz.prog 178 [(0, 1), (1, 3), (4, 1), (5, 1)] #[Value.nilIface, Value.slice none 0 0, Value.int IntKind.i64 0, Value.int IntKind.i8 0, Value.int IntKind.i64 0, Value.nilIface] := .ofS (by kernel_rfl) (by kernel_rfl)
theorem bld182 : Bld Tryz.prog 182 [(0, 1)] #[Value.nilIface] := .ofS (by kernel_rfl) (by kernel_rfl)
theorem bld191 : Bld Tryz.prog 191 [(0, 1), (1, 1), (2, 1), (3, 1), (4, 1), (5, 1), (6, 1)] #[Value.nilIface, Value.nilIface, Value.pointer none, Value.pointer none, Value.pointer none, Value.nilIface, Value.int IntKind.u8 0] := .ofS (by kernel_rfl) (by kernel_rfl)
theorem bld200 : Bld Tryz.prog 200 [(0, 1), (1, 5), (6, 5), (11, 1)] (Value.nilIface :: Value.int IntKind.i64 0 :: Value.int IntKind.i64 0 :: Value.int IntKind.i64 0 :: Value.int IntKind.u32 0 :: Value.int IntKind.i64 0 :: Value.int IntKind.i64 0 :: Value.int IntKind.i64 0 :: Value.int IntKind.i64 0 :: Value.int IntKind.u32 0 :: Value.int IntKind.i64 0 :: Value.pointer none :: []).toArray := .ofS (by kernel_rfl) (by kernel_rfl)
theorem bld212 : Bld Tryz.prog 212 [(0, 1)] #[Value.slice none 0 0] := .ofS (by kernel_rfl) (by kernel_rfl)
theorem bld217 : Bld Tryz.prog 217 [(0, 1)] #[Value.string ByteArray.empty] := .ofS (by kernel_rfl) (by kernel_rfl)
theorem bld219 : Bld Tryz.prog 219 [(0, 1), (1, 1), (2, 1)] #[Value.slice none 0 0, Value.int IntKind.i64 0, Value.int IntKind.i64 0] := .ofS (by kernel_rfl) (by kernel_rfl)
theorem bld223 : Bld Tryz.prog 223 [(0, 3), (3, 1)] #[Value.slice none 0 0, Value.int IntKind.i64 0, Value.int IntKind.i64 0, Value.int IntKind.i64 0] := .ofS (by kernel_rfl) (by kernel_rfl)
theorem bld230 : Bld Tryz.prog 230 [(0, 1), (1, 1), (2, 1), (3, 3)] #[Value.int IntKind.u8 0, Value.int IntKind.u32 0, Value.int IntKind.u16 0, Value.int IntKind.i64 0, Value.int IntKind.i64 0, Value.int IntKind.i64 0] := .ofS (by kernel_rfl) (by kernel_rfl)
theorem bld237 : Bld Tryz.prog 237 [(0, 1), (1, 1), (2, 1), (3, 1), (4, 1), (5, 1), (6, 1)] #[Value.pointer none, Value.pointer none, Value.pointer none, Value.int IntKind.i64 0, Value.int IntKind.i64 0, Value.bool false, Value.bool false] := .ofS (by kernel_rfl) (by kernel_rfl)
theorem bld248 : Bld Tryz.prog 248 [(0, 1), (1, 1), (2, 1)] #[Value.int IntKind.i64 0, Value.int IntKind.u32 0, Value.string ByteArray.empty] := .ofS (by kernel_rfl) (by kernel_rfl)
theorem bld258 : Bld Tryz.prog 258 [(0, 1), (1, 1)] #[Value.slice none 0 0, Value.int IntKind.u8 0] := .ofS (by kernel_rfl) (by kernel_rfl)
theorem bld26 : Bld Tryz.prog 26 [(0, 1), (1, 1), (2, 1), (3, 1), (4, 1), (5, 1)] #[Value.int IntKind.i64 0, Value.int IntKind.i64 0, Value.int IntKind.i64 0, Value.int IntKind.i64 0, Value.int IntKind.i64 0, Value.int IntKind.i64 0] := .ofS (by kernel_rfl) (by kernel_rfl)
theorem bld260 : Bld Tryz.prog 260 [(0, 2)] #[Value.slice none 0 0, Value.int IntKind.u8 0] := .ofS (by kernel_rfl) (by kernel_rfl)
theorem bld265 : Bld Tryz.prog 265 [(0, 2)] #[Value.slice none 0 0, Value.int IntKind.u8 0] := .ofS (by kernel_rfl) (by kernel_rfl)
theorem bld276 : Bld Tryz.prog 276 [(0, 1), (1, 1)] #[Value.nilIface, Value.slice none 0 0] := .ofS (by kernel_rfl) (by kernel_rfl)
theorem bld282 : Bld Tryz.prog 282 [(0, 1), (1, 1)] #[Value.nilIface, Value.int IntKind.i64 0] := .ofS (by kernel_rfl) (by kernel_rfl)
theorem bld284 : Bld Tryz.prog 284 [(0, 2), (2, 1), (3, 1), (4, 1)] #[Value.nilIface, Value.int IntKind.i64 0, Value.pointer none, Value.bool false, Value.nilIface] := .ofS (by kernel_rfl) (by kernel_rfl)
theorem bld288 : Bld Tryz.prog 288 [(0, 1), (1, 1), (2, 1)] #[Value.nilIface, Value.int IntKind.u32 0, Value.int IntKind.u32 0] := .ofS (by kernel_rfl) (by kernel_rfl)
theorem bld344 : Bld Tryz.prog 344 [(0, 1), (1, 1)] #[Value.int IntKind.i64 0, Value.int IntKind.i64 0] := .ofS (by kernel_rfl) (by kernel_rfl)
theorem bld347 : Bld Tryz.prog 347 [(0, 1)] #[Value.int IntKind.u8 0] := .ofS (by kernel_rfl) (by kernel_rfl)
theorem bld47 : Bld Tryz.prog 47 [(0, 1), (1, 1), (2, 1), (3, 1), (4, 1)] #[Value.int IntKind.u64 0, Value.int IntKind.u32 0, Value.int IntKind.u8 0, Value.int IntKind.i64 0, Value.slice none 0 0] := .ofS (by kernel_rfl) (by kernel_rfl)
theorem bld50 : Bld Tryz.prog 50 [(0, 1), (1, 1), (2, 1), (3, 1)] #[Value.slice none 0 0, Value.slice none 0 0, Value.slice none 0 0, Value.slice none 0 0] := .ofA (k := 1) (n := 4) (by kernel_rfl) (by kernel_rfl)
theorem bld51 : Bld Tryz.prog 51 ((0, 1) :: (1, 1) :: (2, 1) :: (3, 1) :: (4, 1) :: (5, 1) :: (6, 1) :: (7, 1) :: (8, 1) :: (9, 1) :: (10, 1) :: (11, 1) :: (12, 1) :: (13, 1) :: []) (Value.slice none 0 0 :: Value.slice none 0 0 :: Value.slice none 0 0 :: Value.slice none 0 0 :: Value.slice none 0 0 :: Value.slice none 0 0 :: Value.slice none 0 0 :: Value.slice none 0 0 :: Value.slice none 0 0 :: Value.slice none 0 0 :: Value.slice none 0 0 :: Value.slice none 0 0 :: Value.slice none 0 0 :: Value.slice none 0 0 :: []).toArray := .ofA (k := 1) (n := 14) (by kernel_rfl) (by kernel_rfl)
theorem bld54 : Bld Tryz.prog 54 [(0, 1), (1, 1), (2, 1), (3, 1)] #[Value.int IntKind.i64 0, Value.int IntKind.i64 0, Value.int IntKind.i64 0, Value.int IntKind.i64 0] := .ofA (k := 1) (n := 4) (by kernel_rfl) (by kernel_rfl)
theorem bld75 : Bld Tryz.prog 75 [(0, 1), (1, 16), (17, 16), (33, 1)] (Value.slice none 0 0 :: Value.slice none 0 0 :: Value.slice none 0 0 :: Value.slice none 0 0 :: Value.slice none 0 0 :: Value.slice none 0 0 :: Value.slice none 0 0 :: Value.slice none 0 0 :: Value.slice none 0 0 :: Value.slice none 0 0 :: Value.slice none 0 0 :: Value.slice none 0 0 :: Value.slice none 0 0 :: Value.slice none 0 0 :: Value.slice none 0 0 :: Value.slice none 0 0 :: Value.slice none 0 0 :: Value.slice none 0 0 :: Value.slice none 0 0 :: Value.slice none 0 0 :: Value.slice none 0 0 :: Value.slice none 0 0 :: Value.slice none 0 0 :: Value.slice none 0 0 :: Value.slice none 0 0 :: Value.slice none 0 0 :: Value.slice none 0 0 :: Value.slice none 0 0 :: Value.slice none 0 0 :: Value.slice none 0 0 :: Value.slice none 0 0 :: Value.slice none 0 0 :: Value.slice none 0 0 :: Value.slice none 0 0 :: []).toArray := .ofS (by kernel_rfl) (by kernel_rfl)
theorem bld78 : Bld Tryz.prog 78 [(0, 1), (1, 1), (2, 1), (3, 1), (4, 1), (5, 1), (6, 1), (7, 1)] #[Value.bool false, Value.bool false, Value.bool false, Value.bool false, Value.bool false, Value.bool false, Value.bool false, Value.bool false] := .ofA (k := 1) (n := 8) (by kernel_rfl) (by kernel_rfl)
theorem bld79 : Bld Tryz.prog 79 [(0, 1), (1, 1), (2, 1), (3, 1), (4, 1), (5, 1), (6, 1), (7, 1)] #[Value.int IntKind.u64 0, Value.int IntKind.u64 0, Value.int IntKind.u64 0, Value.int IntKind.u64 0, Value.int IntKind.u64 0, Value.int IntKind.u64 0, Value.int IntKind.u64 0, Value.int IntKind.u64 0] := .ofA (k := 1) (n := 8) (by kernel_rfl) (by kernel_rfl)
theorem bld88 : Bld Tryz.prog 88 [(0, 1)] #[Value.pointer none] := .ofS (by kernel_rfl) (by kernel_rfl)
theorem bld96 : Bld Tryz.prog 96 [(0, 1), (1, 1), (2, 1)] #[Value.slice none 0 0, Value.int IntKind.i64 0, Value.int IntKind.i64 0] := .ofS (by kernel_rfl) (by kernel_rfl)
theorem zer3 : Zer Tryz.prog 3 (Value.int IntKind.i64 0) := fun _ => by kernel_rfl
end Go.Proofs.YtfpepghmbeoanaaGreatDoor
end

section
open Go Go.RowKit
set_option linter.unusedSimpArgs false
namespace Go.Proofs.YtfpepghmbeoanaaGreatDoor
section
variable {P : Program} {G : Gst} {ops : Array Oper} {Q : Exit → Act → World → Prop} {n : Nat} {base : Nat → Value} {L : List (Nat × Value)} {D : List Deferred} {As r : List Asn}
  {ty : TypeId} {pos : String} {aft : Array Edge} {rest : List Oper}
/-- These values are read from this place on. -/
def Reads (G : Gst) (As : List Asn) (a : Addr) (news : List Value) : Prop := ∀ w, Sat G w As → ∀ j v, news[j]? = some v → w.cell? (a.add j) = some v
theorem Reads.cel {b o : Nat} {T : TypeId} {fr : Nat × Nat} {ss : Array Value} {news : List Value} (q : Pick (blk b (.cells ss T fr)) As r) (h : ∀ j v, news[j]? = some v → ss[o + j]? = some v) : Reads G As ⟨b, o, none⟩ news := by
  intro w hw j v hj
  have : (⟨b, o, none⟩ : Addr).add j = ⟨b, o + j, none⟩ := by unfold Addr.add; split <;> simp_all
  rw [this]
  exact hw.cell q (h j v hj)
theorem Sat.row {w : World} {b : Nat} {T : TypeId} {cs cs' : Array Value} (hw : Sat G w (cel b T cs :: r)) : Sat G (w.setRow b cs') (cel b T cs' :: r) :=
  hw.turn rfl rfl rfl (fun k hk => setRow_other w b k cs' hk) (setRow_heap w b cs cs' T (0, 0) hw.block)
/-- 'copy(dst, src)' into cells of one's own. -/
theorem JO.copy {dT sT e : TypeId} {d : Nat} {x y : Operand} {b o dl dc sl sc m : Nat} {a : Addr} {T : TypeId} {cs cs' : Array Value} {news : List Value}
    (ht : P.underlying dT = some (.slice e)) (hz : (P.info? e).map (·.size) = some 1) (hx : ev n base L x = .slice (some ⟨b, o, none⟩) dl dc) (hy : ev n base L y = .slice (some a) sl sc) (hl : news.length = m) (hm : min sl dl = m)
    (q : Pick (cel b T cs) As r) (hs : Reads G As a news) (hf : o + m ≤ cs.size) (h1 : ∀ v ∈ news, v.oneCell' = true) (hc : (cs.toList.take o ++ news ++ cs.toList.drop (o + m)).toArray = cs')
    (k : JO P G ops Q rest n base ((d, .int .i64 (m : Int)) :: L) D (cel b T cs' :: r)) :
    JO P G ops Q (⟨some d, .call { callee := .builtin .copy, args := #[x, y], argTypes := #[dT, sT] }, ty, pos, aft, none⟩ :: rest) n base L D As := by
  subst hl
  refine ⟨fun w hw => ?_⟩
  refine wpList_plain rfl fun K hK => ?_
  show Oper.upon P _ _ _ _ _
  have hw2 := hw.pick q
  have hr := run_copy_row P w dT sT ty e b o dl dc a sl sc cs T news ht hz hw2.block hm.symm (hs w hw) hf h1
  rw [hc] at hr
  have e : (execOp (frm n base L D).eval ⟨some d, .call { callee := .builtin .copy, args := #[x, y], argTypes := #[dT, sT] }, ty, pos, aft, none⟩).run P w = .ok (.value (.int .i64 (news.length : Int))) (w.setRow b cs') := by
    rw [frm_eval]
    simp [execOp, resolve, Go.invoke, Go.builtin, hx, hy, hr, goInt]
  rw [e]
  show K _ _
  rw [show (frm n base L D).put _ _ = _ from frm_put d _]
  exact hK _ _ (k.run _ hw2.row)
/-- A struct that an interface value holds. -/
theorem Py.asT {xt at_ : TypeId} {x : Operand} {fs : Array Field} {v : Value} (hu : P.underlying at_ = some (.struct fs)) (hx : ev n base L x = .iface at_ v) : Py P G n base L As (.typeAssert x xt at_ true) (.tuple #[v, .bool true]) := by
  refine ⟨fun w _ o ho => ?_⟩
  simp [execOp, ho, hx, Instr.typeAssert, run_underlying hu]
theorem Py.asF {xt at_ t : TypeId} {x : Operand} {fs : Array Field} {v z : Value} (hu : P.underlying at_ = some (.struct fs)) (hz : Zer P at_ z) (hx : ev n base L x = .iface t v) (hn : Nat.beq t at_ = false) : Py P G n base L As (.typeAssert x xt at_ true) (.tuple #[z, .bool false]) := by
  refine ⟨fun w _ o ho => ?_⟩
  have hne : ¬ t = at_ := fun e => by subst e; simp at hn
  simp [execOp, ho, hx, Instr.typeAssert, run_underlying hu, hne, hz w]
/-- A pointer that an interface value holds, against itself. -/
theorem run_eqsame {t tx elem : TypeId} {k : Nat} {ms : Array (String × TypeId)} {a : Addr} (ht : P.underlying t = some (.interface ms)) (hi : (P.info? tx).map (·.comparable) = some true) (hu : P.underlying tx = some (.pointer elem)) (hz : Siz P elem (k + 1)) (w : World) :
    (binOp .eql t (.iface tx (.pointer (some a))) (.iface tx (.pointer (some a)))).run P w = .ok (.bool true) w ∧ (binOp .neq t (.iface tx (.pointer (some a))) (.iface tx (.pointer (some a)))).run P w = .ok (.bool false) w := by
  obtain ⟨i, hi, hc⟩ : ∃ i, P.info? tx = some i ∧ i.comparable = true := by
    cases hq : P.info? tx with
    | none => simp [hq] at hi
    | some i => exact ⟨i, rfl, by simpa [hq] using hi⟩
  have h1 : ∀ d : Nat, (Op.equalIn (d + 1) tx (.pointer (some a)) (.pointer (some a))).run P w = .ok true w := by
    intro d
    simp [Op.equalIn, run_underlying hu, hz w, sameAddr]
  have h : ∀ d : Nat, (Op.equalIn (d + 1 + 1) t (.iface tx (.pointer (some a))) (.iface tx (.pointer (some a)))).run P w = .ok true w := by
    intro d
    rw [Op.equalIn]
    simp [run_underlying ht, typeInfo, hi, hc, h1 d]
  constructor
  · simp only [binOp]; simp [Op.equal, Op.maxDepth, h 9998]
  · simp only [binOp]; simp [Op.equal, Op.maxDepth, h 9998]
theorem Py.neqSame {xt yt tx elem : TypeId} {x y : Operand} {k : Nat} {ms : Array (String × TypeId)} {a : Addr} (ht : P.underlying xt = some (.interface ms)) (hi : (P.info? tx).map (·.comparable) = some true) (hu : P.underlying tx = some (.pointer elem)) (hz : Siz P elem (k + 1)) (hx : ev n base L x = .iface tx (.pointer (some a))) (hy : ev n base L y = .iface tx (.pointer (some a))) :
    Py P G n base L As (.binOp .neq xt x y yt) (.bool false) := by
  refine ⟨fun w _ o ho => ?_⟩
  have hg : (eqGuard .neq xt x y (.iface tx (.pointer (some a))) (.iface tx (.pointer (some a)))).run P w = .ok () w := by simp [eqGuard]
  simp only [execOp, ho, hx, hy, Sem.run_bind, hg, Result.andThen_ok, (run_eqsame ht hi hu hz w).2, Sem.run_pure]
theorem Py.eqlSame {xt yt tx elem : TypeId} {x y : Operand} {k : Nat} {ms : Array (String × TypeId)} {a : Addr} (ht : P.underlying xt = some (.interface ms)) (hi : (P.info? tx).map (·.comparable) = some true) (hu : P.underlying tx = some (.pointer elem)) (hz : Siz P elem (k + 1)) (hx : ev n base L x = .iface tx (.pointer (some a))) (hy : ev n base L y = .iface tx (.pointer (some a))) :
    Py P G n base L As (.binOp .eql xt x y yt) (.bool true) := by
  refine ⟨fun w _ o ho => ?_⟩
  have hg : (eqGuard .eql xt x y (.iface tx (.pointer (some a))) (.iface tx (.pointer (some a)))).run P w = .ok () w := by simp [eqGuard]
  simp only [execOp, ho, hx, hy, Sem.run_bind, hg, Result.andThen_ok, (run_eqsame ht hi hu hz w).1, Sem.run_pure]
end
theorem siz217 : Siz Tryz.prog 217 1 := fun _ => by kernel_rfl
theorem comp215 : (Tryz.prog.info? 215).map (·.comparable) = some true := by kernel_rfl
theorem not_t : (!true) = false := rfl
theorem not_f : (!false) = true := rfl
theorem info5 : (Tryz.prog.info? 5).map (·.size) = some 1 := by kernel_rfl
end Go.Proofs.YtfpepghmbeoanaaGreatDoor
end

section
open Go Go.RowKit
set_option linter.unusedSimpArgs false
namespace Go.Proofs.YtfpepghmbeoanaaGreatDoor
section
variable {P : Program} {G : Gst} {ops : Array Oper} {Q : Exit → Act → World → Prop} {n : Nat} {base : Nat → Value} {L : List (Nat × Value)} {D : List Deferred} {As r r' : List Asn}
theorem JX.endC1 {fn : Func} {ι : Type} {v : ι → Value} {Post : ι → List Asn} {F : Asn} {e : Exit} {t b k : Nat} {ty : TypeId} {T : TypeId} {fr : Nat × Nat} {cs vs : Array Value} (he : e = .ret ∨ e = .normal) (i : ι) (hr : fn.results = #[.cell t ty]) (ht : ev n base L (.tmp t) = .pointer (some ⟨b, 0, none⟩)) (hs : Aggr P ty k)
    (q0 : Pick (blk b (.cells cs T fr)) As r) (hk : k ≤ cs.size) (hv : cs.extract 0 k = vs) (hv2 : Value.agg vs = v i) (q : Picks (Post i ++ [F]) As r') :
    JX G (bodyPost P fn fun e w' => ∃ i, e = .returned (v i) ∧ Sat G w' (Post i ++ [F])) e n base L [] As :=
  ⟨fun w hw => bodyPost_any he i (u := .agg vs) (by
    have hc := run_loadCells (P := P) (hw.block_of q0) 0 k (by omega)
    rw [Nat.zero_add, hv] at hc
    have hg := getD_ev (D := []) (n := n) (base := base) (L := L) t
    have hg2 : (frm n base L []).tmps[t]?.getD undef = .pointer (some ⟨b, 0, none⟩) := by rw [← ht, ← hg]; simp
    simp only [results, hr]
    simp [hg2, asAddr, loadVar, (hs w).1, (hs w).2, hc]) hv2 q hw⟩
/-- An array as a slice. -/
theorem Py.slcP {t e : TypeId} {x : Operand} {sz b o m : Nat} (ht : P.underlying t = some (.array m e)) (hz : Siz P e sz) (hx : ev n base L x = .pointer (some ⟨b, o, none⟩)) (hm : 0 < m) :
    Py P G n base L As (.slice t x none none none) (.slice (some ⟨b, o, none⟩) m m) := by
  refine ⟨fun w _ o' ho => ?_⟩
  have h0 : ¬ m = 0 := by omega
  simp [execOp, ho, hx, Instr.sliceAt, run_underlying ht, Instr.sureAddr, Instr.sliceBounds, hz w, h0, Addr.add]
end
section
variable {P : Program} {G : Gst} {ops : Array Oper} {Q : Exit → Act → World → Prop} {n : Nat} {base : Nat → Value} {L : List (Nat × Value)} {D : List Deferred} {As r : List Asn}
  {ty : TypeId} {pos : String} {aft : Array Edge} {rest : List Oper}
theorem JO.storeB {t : TypeId} {x y : Operand} {b i m : Nat} {T : TypeId} {cs vs : Array Value} (hz : Siz P t m) (hx : ev n base L x = .pointer (some ⟨b, i, none⟩)) (hy : ev n base L y = .agg vs) (hm : vs.size = m) (h1 : ∀ v ∈ vs.toList, v.oneCell' = true)
    (q : Pick (cel b T cs) As r) (hi : i + vs.size ≤ cs.size) {cs' : Array Value} (hcs : putAll cs i vs.toList = cs') (k : JO P G ops Q rest n base L D (cel b T cs' :: r)) :
    JO P G ops Q (⟨none, .store t x y, ty, pos, aft, none⟩ :: rest) n base L D As := by
  subst hm
  exact JO.storeA hz hx hy h1 q hi hcs k
end
theorem agg260 : Aggr Tryz.prog 260 2 := fun _ => ⟨by kernel_rfl, by kernel_rfl⟩
theorem agg265 : Aggr Tryz.prog 265 2 := fun _ => ⟨by kernel_rfl, by kernel_rfl⟩
end Go.Proofs.YtfpepghmbeoanaaGreatDoor
end

section
open Go Go.RowKit
set_option linter.unusedSimpArgs false
namespace Go.Proofs.YtfpepghmbeoanaaGreatDoor
section
variable {P : Program} {G : Gst} {ops : Array Oper} {Q : Exit → Act → World → Prop} {n : Nat} {base : Nat → Value} {L : List (Nat × Value)} {D : List Deferred} {As r : List Asn}
  {ty : TypeId} {pos : String} {aft : Array Edge} {rest : List Oper}
theorem Py.asI {xt at_ t : TypeId} {x : Operand} {want : Array (String × TypeId)} {v : Value} (hu : P.underlying at_ = some (.interface want)) (h : (P.info? t).map (fun i => (lacking want i.methods).isEmpty) = some true) (hx : ev n base L x = .iface t v) :
    Py P G n base L As (.typeAssert x xt at_ true) (.tuple #[.iface t v, .bool true]) := by
  refine ⟨fun w _ o ho => ?_⟩
  simp [execOp, ho, hx, run_typeAssert_hasB hu h]
theorem Py.asN {xt at_ t : TypeId} {x : Operand} {want : Array (String × TypeId)} {v z : Value} (hu : P.underlying at_ = some (.interface want)) (h : (P.info? t).map (fun i => (lacking want i.methods).isEmpty) = some false) (hz : (P.info? at_).map (·.zero) = some (some z)) (hx : ev n base L x = .iface t v) :
    Py P G n base L As (.typeAssert x xt at_ true) (.tuple #[z, .bool false]) := by
  refine ⟨fun w _ o ho => ?_⟩
  simp [execOp, ho, hx, run_typeAssert_lacksB hu h hz]
theorem Py.mkM {x : Operand} {name : String} {v : Value} (hx : ev n base L x = v) : Py P G n base L As (.makeFunc (.method name) #[x] #[]) (.func (.method name) #[v] #[]) := by
  refine ⟨fun w _ o ho => ?_⟩
  simp [execOp, ho, hx, Instr.makeFunc]
def NilA (P : Program) (t : TypeId) (v : Value) (name : String) : Prop := ∀ w, (nilAhead (P.types.size + Made.depth) t v name).run P w = .ok (some false) w
theorem Py.nilM {x : Operand} {name : String} {t : TypeId} {v : Value} {cs : Array Value} (h : ev n base L x = .func (.method name) #[.iface t v] cs) (hn : NilA P t v name) : Py P G n base L As (.nilCheck x) (.func (.method name) #[.iface t v] cs) := by
  refine ⟨fun w _ o ho => ?_⟩
  simp [execOp, ho, h, hn w]
/-- A call of a function that a variable holds. -/
theorem JO.callV {f : FuncId} {x : Operand} {xs : List Operand} {ats : Array TypeId} {dst : Option Nat} {args : List Value} {Pre : List Asn} {ι : Type} {v : ι → Value} {Post : ι → List Asn} (hx : ev n base L x = .func (.func f) #[] #[]) (ha : Evs n base L xs args) (h : Con P G f args.toArray Pre v Post)
    (q : Picks Pre As r) (k : ∀ i, JO P G ops Q rest n base (into dst (v i) L) D (Post i ++ r)) :
    JO P G ops Q (⟨dst, .call { callee := .value x, args := xs.toArray, argTypes := ats }, ty, pos, aft, none⟩ :: rest) n base L D As := by
  refine ⟨fun w hw => ?_⟩
  refine wpList_plain rfl fun K hK => ?_
  show Oper.upon P _ _ _ _ _
  have e : (execOp (frm n base L D).eval ⟨dst, .call { callee := .value x, args := xs.toArray, argTypes := ats }, ty, pos, aft, none⟩).run P w = .ok (.enter f args.toArray) w := by
    rw [frm_eval]
    simp [execOp, resolve, ha.map, hx, Deferred.ofValue, Go.invoke, run_callFunc h]
  rw [e]
  refine (h.calls hw q).mono ?_
  rintro e w' ⟨i, rfl, hs⟩
  show K _ _
  rw [show (frm n base L D).put _ _ = _ from frm_into dst _]
  exact hK _ _ ((k i).run w' hs)
/-- Bytes as a string. -/
def strB (l : List Nat) : ByteArray := ⟨(l.map UInt8.ofNat).toArray⟩
theorem Py.str {src dst e : TypeId} {x : Operand} {a : Addr} {m c : Nat} {l : List Nat} (hs : P.underlying src = some (.slice e)) (he : P.underlying e = some (.int .u8)) (hd : P.underlying dst = some .string) (hx : ev n base L x = .slice (some a) m c) (hm : l.length = m) (hb : ∀ v ∈ l, v < 256) (hr : Reads G As a (u8s l)) :
    Py P G n base L As (.convert src dst x) (.string (strB l)) := by
  refine ⟨fun w hw o ho => ?_⟩
  subst hm
  have h := run_convert_bytes_back (P := P) w src dst e a c (l.map UInt8.ofNat) hs he hd (fun j hj => by
    have hj' : j < l.length := by simpa using hj
    have := hr w hw j (vu8 l[j]) (by simp [u8s, hj'])
    rw [this]
    have hlt := hb l[j] (List.getElem_mem hj')
    have : (UInt8.ofNat l[j]).toNat = l[j] := by simp [UInt8.toNat_ofNat']; omega
    simp only [List.getElem_map, this])
  simp only [List.length_map] at h
  simp [execOp, ho, hx, h, strB]
theorem Py.strN {src dst e : TypeId} {x : Operand} (hs : P.underlying src = some (.slice e)) (he : P.underlying e = some (.int .u8)) (hd : P.underlying dst = some .string) (hx : ev n base L x = .slice none 0 0) :
    Py P G n base L As (.convert src dst x) (.string (strB [])) := by
  refine ⟨fun w hw o ho => ?_⟩
  simp [execOp, ho, hx, run_convert_bytes_string w src dst e none 0 0 hs he hd, Conv.bytesToString, strB]
  try rfl
theorem str_beq {a b : List Nat} (ha : ∀ v ∈ a, v < 256) (hb : ∀ v ∈ b, v < 256) : ((strB a).toList == (strB b).toList) = decide (a = b) := by
  rw [ByteArray.toList_eq, ByteArray.toList_eq]
  simp only [strB]
  rw [Bool.eq_iff_iff]
  simp only [beq_iff_eq, decide_eq_true_eq]
  constructor
  · intro h
    have h2 := congrArg (List.map UInt8.toNat) h
    simp only [List.map_map] at h2
    have hid : ∀ l : List Nat, (∀ v ∈ l, v < 256) → l.map (UInt8.toNat ∘ UInt8.ofNat) = l := by
      intro l hl
      conv => rhs; rw [← List.map_id l]
      refine List.map_congr_left fun v hv => ?_
      have := hl v hv
      simp [UInt8.toNat_ofNat']; omega
    rwa [hid a ha, hid b hb] at h2
  · rintro rfl; rfl
theorem Py.streq {t yt : TypeId} {x y : Operand} {a b : ByteArray} {c : Bool} (hx : ev n base L x = .string a) (hy : ev n base L y = .string b) (hc : (a.toList == b.toList) = c) : Py P G n base L As (.binOp .eql t x y yt) (.bool c) := by
  refine ⟨fun w _ o ho => ?_⟩
  subst hc
  have hg : (eqGuard .eql t x y (.string a) (.string b)).run P w = .ok () w := by simp [eqGuard]
  simp only [execOp, ho, hx, hy, Sem.run_bind, hg, Result.andThen_ok]
  simp [binOp, Op.stringOp]
theorem Py.eqlSN {t yt e : TypeId} {x : Operand} {a : Option Addr} {l c : Nat} (ht : P.underlying t = some (.slice e)) (hx : ev n base L x = .slice a l c) : Py P G n base L As (.binOp .eql t x (.const (.slice none 0 0)) yt) (.bool a.isNone) := by
  refine ⟨fun w _ o ho => ?_⟩
  have hg : (eqGuard .eql t x (.const (.slice none 0 0)) (.slice a l c) (.slice none 0 0)).run P w = .ok () w := by simp [eqGuard]
  have h1 : (binOp .eql t (.slice a l c) (.slice none 0 0)).run P w = .ok (.bool a.isNone) w := by
    simp only [binOp]; simp [run_equal_slice_nil w t e a l c ht]
  have hy : ev n base L (.const (.slice none 0 0)) = .slice none 0 0 := rfl
  simp only [execOp, ho, hx, hy, Sem.run_bind, hg, Result.andThen_ok, h1, Sem.run_pure]
/-- A nil function. -/
theorem Py.eqlFN {t yt : TypeId} {x : Operand} {f : FuncId} {ps rs : Array TypeId} {vr : Bool} (ht : P.underlying t = some (.func ps rs vr)) (hx : ev n base L x = .func (.func f) #[] #[]) : Py P G n base L As (.binOp .eql t x (.const .nilFunc) yt) (.bool false) := by
  refine ⟨fun w _ o ho => ?_⟩
  have hg : (eqGuard .eql t x (.const .nilFunc) (.func (.func f) #[] #[]) .nilFunc).run P w = .ok () w := by simp [eqGuard]
  have h1 : (binOp .eql t (.func (.func f) #[] #[]) .nilFunc).run P w = .ok (.bool false) w := by
    have h : ∀ d : Nat, (Op.equalIn (d + 1) t (.func (.func f) #[] #[]) .nilFunc).run P w = .ok false w := fun d => by simp [Op.equalIn, run_underlying ht]
    simp only [binOp]; simp [Op.equal, Op.maxDepth, h 9999]
  have hy : ev n base L (.const .nilFunc) = .nilFunc := rfl
  simp only [execOp, ho, hx, hy, Sem.run_bind, hg, Result.andThen_ok, h1, Sem.run_pure]
end
end Go.Proofs.YtfpepghmbeoanaaGreatDoor
end

section
open Go Go.RowKit Go.Lib
set_option linter.unusedSimpArgs false
set_option linter.unusedVariables false
namespace Go.Proofs.YtfpepghmbeoanaaGreatDoor
section
variable {P : Program} {G : Gst} {ops : Array Oper} {Q : Exit → Act → World → Prop} {n : Nat} {base : Nat → Value} {L : List (Nat × Value)} {D : List Deferred} {As r r' : List Asn}
  {ty : TypeId} {pos : String} {aft : Array Edge} {rest : List Oper}
theorem Con.introD {f : FuncId} {fn : Func} {c : Code} {args : List Value} {Pre : List Asn} {ι : Type} {v : ι → Value} {Post : ι → List Asn} (hf : P.funcs[f]? = some fn) (hb : fn.body = some c) (hname : (fn.name == "runtime.NumGoroutine") = false)
    (hn : fn.ntmps = n) (hl : args.length ≤ n) (h : ∀ F : Asn, JC P G (bodyPostD P fn fun e w' => ∃ i, e = .returned (v i) ∧ Sat G w' (Post i ++ [F])) c n L0 (inArgs 0 args) [] (Pre ++ [F])) : Con P G f args.toArray Pre v Post := by
  refine ⟨⟨fn, c, hf, hb, hname⟩, fun F w hw => ?_⟩
  refine calls_of_wp_defers hf hb ?_
  have := frm_enter args hl
  simp only [hn, List.size_toArray] at *
  rw [this]
  exact (h F).run w hw
theorem JO.dfr {f : FuncId} {ats : Array TypeId} (k : JO P G ops Q rest n base L (⟨.fn (.func f) #[], #[]⟩ :: D) As) :
    JO P G ops Q (⟨none, .defer { callee := .value (.func f), args := #[], argTypes := ats }, ty, pos, aft, none⟩ :: rest) n base L D As := by
  refine ⟨fun w hw => ?_⟩
  refine wpList_plain rfl fun K hK => ?_
  show Oper.upon P _ _ _ _ _
  have e : (execOp (frm n base L D).eval ⟨none, .defer { callee := .value (.func f), args := #[], argTypes := ats }, ty, pos, aft, none⟩).run P w = .ok (.defer ⟨.fn (.func f) #[], #[]⟩) w := by
    rw [frm_eval]
    simp [execOp, resolve, ev, Deferred.ofValue]
  rw [e]
  exact hK _ _ (k.run w hw)
theorem JX.endD1 {fn : Func} {ι : Type} {v : ι → Value} {Post : ι → List Asn} {F : Asn} {e : Exit} {t : Nat} {f : FuncId} (he : e = .ret ∨ e = .normal) (i : ι) (hr : fn.results = #[.tmp t]) (hv : ev n base L (.tmp t) = v i)
    (hc : ∀ w, (callFunc f #[]).run P w = .ok (.enter f #[]) w) (hD : ∀ w, CallsD P f #[] .returning w fun e u' w' => e = .returned (.tuple #[]) ∧ u' = .returning ∧ w' = w) (q : Picks (Post i ++ [F]) As r') :
    JX G (bodyPostD P fn fun e w' => ∃ i, e = .returned (v i) ∧ Sat G w' (Post i ++ [F])) e n base L [⟨.fn (.func f) #[], #[]⟩] As := by
  refine ⟨fun w hw => ?_⟩
  have h0 : ∃ u, (results fn (frm n base L []).tmps).run P w = .ok u w ∧ u = v i := by
    refine ⟨_, ?_, hv⟩
    have hg := getD_ev (D := []) (n := n) (base := base) (L := L) t
    simp only [results, hr]
    simp [← hg]
  obtain ⟨u, hr, hu⟩ := h0
  subst hu
  have hs : Sat G w (Post i ++ [F]) := (hw.picks q).of fun hs => by
    obtain ⟨h1, h2, hd, e, ha, _⟩ := stars_append.1 hs
    rw [e]; exact stars_up _ (Hp.le_un h1 h2) ha
  have hL : Leaves P fn (frm n base L []).tmps (fun e w' => ∃ i, e = .returned (v i) ∧ Sat G w' (Post i ++ [F])) [⟨.fn (.func f) #[], #[]⟩] .returning w := by
    refine leaves_cons (f := f) (args := #[]) (by simp) (by simp [Go.invoke, hc]) ?_
    refine (hD w).mono ?_
    rintro e u' w'' ⟨rfl, rfl, rfl⟩
    exact ⟨_, hr, i, rfl, hs⟩
  rcases he with rfl | rfl
  · exact hL
  · exact hL
/-- 'append([]T(nil), make([]T, m)...)'. -/
theorem JO.appZ {t tn e : TypeId} {d : Nat} {x y : Operand} {z : Value} {bytes m : Nat} {kn k' : IntKind} {mi : Int} (ht : P.underlying t = some (.slice e)) (htn : P.underlying tn = some (.int kn)) (he : Elm P e z bytes) (hx : ev n base L x = .slice none 0 0) (hy : ev n base L y = .int k' mi) (hm : mi = (m : Int)) (h0 : 0 < m) (hb : m * bytes ≤ 281474976710656) (h63 : m ≤ 281474976710656)
    (k : ∀ b cap, m ≤ cap → cap < 9223372036854775808 → JO P G ops Q rest n base ((d, .slice (some ⟨b, 0, none⟩) m cap) :: L) D (cel b e (Array.replicate cap z) :: As)) :
    JO P G ops Q (⟨some d, .call { callee := .builtin .append, args := #[x, y], argTypes := #[t, tn] }, ty, pos, aft, none⟩ :: rest) n base L D As := by
  subst hm
  refine ⟨fun w hw => ?_⟩
  refine wpList_plain rfl fun K hK => ?_
  show Oper.upon P _ _ _ _ _
  obtain ⟨i, hi, hz, hs, hib⟩ := he.inf
  have hr := Lib.run_append_nil_zeros (P := P) w t tn ty e i z k' kn ht htn hi hz m h0 (by rw [hs]; decide) (by omega) (by rw [hib]; exact hb)
  have hge : m ≤ grownCap w m 0 e := grownCap_ge w m 0 e
  have hle : grownCap w m 0 e ≤ maxLen := grownCap_le_maxLen w m 0 e (by unfold maxLen; omega)
  have er : (execOp (frm n base L D).eval ⟨some d, .call { callee := .builtin .append, args := #[x, y], argTypes := #[t, tn] }, ty, pos, aft, none⟩).run P w = .ok (.value (.slice (some ⟨w.heap.size, 0, none⟩) m (grownCap w m 0 e))) (w.drew.alloc (.cells (Array.replicate (grownCap w m 0 e) z) e)) := by
    rw [frm_eval]
    have hc : (Builtin.zeroCells z.cells m ++ Builtin.zeroCells z.cells (grownCap w m 0 e - m)) = Array.replicate (grownCap w m 0 e) z := by
      rw [cells_one he.one]
      have h1 : ∀ j, Builtin.zeroCells #[z] j = Array.replicate j z := by
        intro j
        apply Array.ext
        · simp [Builtin.zeroCells]
        · intro a h1 h2; simp [Builtin.zeroCells, Nat.mod_one]
      rw [h1, h1]
      rw [Array.replicate_append_replicate]
      congr 1; omega
    rw [hc] at hr
    simp [execOp, resolve, Go.invoke, Go.builtin, hx, hy, hr]
  rw [er]
  show K _ _
  rw [show (frm n base L D).put _ _ = _ from frm_put d _]
  have hA := hw.drew.alloc (.cells (Array.replicate (grownCap w m 0 e) z) e)
  exact hK _ _ ((k _ _ hge (by unfold maxLen at hle; omega)).run _ hA)
/-! ### Rows opened -/
theorem Sat.unrow {w : World} {e : TypeId} {v : Value} {xs : List Value} (hw : Sat G w (Row e v xs :: r)) (hx : xs ≠ []) : ∃ b cap cur, v = .slice (some ⟨b, 0, none⟩) xs.length cap ∧ xs.length ≤ cap ∧ cap < 9223372036854775808 ∧ cur.size = cap ∧ cur.toList.take xs.length = xs ∧ Sat G w (cel b e cur :: r) := by
  obtain ⟨h1, h2, hd, he, hA, hB⟩ := hw.mem
  rcases hA with ⟨_, h⟩ | ⟨b, cap, cur, hv, hc, hlt, hs, ht, hb⟩
  · exact absurd h hx
  · exact ⟨b, cap, cur, hv, hc, hlt, hs, ht, hw.of fun _ => ⟨h1, h2, hd, he, hb, hB⟩⟩
/-- What a row's block holds. -/
structure RowOf (xs : List Value) (cap : Nat) (cur : Array Value) : Prop where
  le : xs.length ≤ cap
  lt : cap < 9223372036854775808
  size : cur.size = cap
  take : cur.toList.take xs.length = xs
theorem RowOf.get {xs : List Value} {cap : Nat} {cur : Array Value} (h : RowOf xs cap cur) {i : Nat} {v : Value} (hv : xs[i]? = some v) : cur[i]? = some v := by
  have h1 : i < xs.length := (List.getElem?_eq_some_iff.1 hv).1
  have h2 := h.take
  have : (cur.toList.take xs.length)[i]? = some v := by rw [h2]; exact hv
  rw [List.getElem?_take_of_lt h1] at this
  simpa using this
theorem JO.unrow {e : TypeId} {v : Value} {xs : List Value} {l : List Oper} (q : Pick (Row e v xs) As r) (hx : xs ≠ []) (k : ∀ b cap cur, v = .slice (some ⟨b, 0, none⟩) xs.length cap → RowOf xs cap cur → JO P G ops Q l n base L D (cel b e cur :: r)) : JO P G ops Q l n base L D As :=
  ⟨fun w hw => by obtain ⟨b, cap, cur, hv, h1, h2, h3, h4, hs⟩ := (hw.pick q).unrow hx; exact (k b cap cur hv ⟨h1, h2, h3, h4⟩).run w hs⟩
theorem JC.unrow {e : TypeId} {v : Value} {xs : List Value} {l : Code} (q : Pick (Row e v xs) As r) (hx : xs ≠ []) (k : ∀ b cap cur, v = .slice (some ⟨b, 0, none⟩) xs.length cap → RowOf xs cap cur → JC P G Q l n base L D (cel b e cur :: r)) : JC P G Q l n base L D As :=
  ⟨fun w hw => by obtain ⟨b, cap, cur, hv, h1, h2, h3, h4, hs⟩ := (hw.pick q).unrow hx; exact (k b cap cur hv ⟨h1, h2, h3, h4⟩).run w hs⟩
theorem JX.unrow {e : TypeId} {v : Value} {xs : List Value} {l : Exit} (q : Pick (Row e v xs) As r) (hx : xs ≠ []) (k : ∀ b cap cur, v = .slice (some ⟨b, 0, none⟩) xs.length cap → RowOf xs cap cur → JX G Q l n base L D (cel b e cur :: r)) : JX G Q l n base L D As :=
  ⟨fun w hw => by obtain ⟨b, cap, cur, hv, h1, h2, h3, h4, hs⟩ := (hw.pick q).unrow hx; exact (k b cap cur hv ⟨h1, h2, h3, h4⟩).run w hs⟩
theorem row_mk {b e m cap : Nat} {cur : Array Value} {xs : List Value} (hr : RowOf xs cap cur) (hl : xs.length = m) {hp : Hp} (hc : cel b e cur hp) : Row e (.slice (some ⟨b, 0, none⟩) m cap) xs hp := by
  subst hl
  exact Or.inr ⟨b, cap, cur, rfl, hr.le, hr.lt, hr.size, hr.take, hc⟩
theorem Sat.torow {w : World} {b e m cap : Nat} {cur : Array Value} {xs : List Value} (hw : Sat G w (cel b e cur :: r)) (hr : RowOf xs cap cur) (hl : xs.length = m) : Sat G w (Row e (.slice (some ⟨b, 0, none⟩) m cap) xs :: r) :=
  hw.of fun hs => by obtain ⟨h1, h2, hd, he, ha, hb⟩ := hs; exact ⟨h1, h2, hd, he, row_mk hr hl ha, hb⟩
theorem JO.torow {b e m cap : Nat} {cur : Array Value} {xs : List Value} {l : List Oper} (q : Pick (cel b e cur) As r) (hr : RowOf xs cap cur) (hl : xs.length = m) (k : JO P G ops Q l n base L D (Row e (.slice (some ⟨b, 0, none⟩) m cap) xs :: r)) : JO P G ops Q l n base L D As :=
  ⟨fun w hw => k.run w ((hw.pick q).torow hr hl)⟩
theorem JC.torow {b e m cap : Nat} {cur : Array Value} {xs : List Value} {l : Code} (q : Pick (cel b e cur) As r) (hr : RowOf xs cap cur) (hl : xs.length = m) (k : JC P G Q l n base L D (Row e (.slice (some ⟨b, 0, none⟩) m cap) xs :: r)) : JC P G Q l n base L D As :=
  ⟨fun w hw => k.run w ((hw.pick q).torow hr hl)⟩
theorem JX.torow {b e m cap : Nat} {cur : Array Value} {xs : List Value} {l : Exit} (q : Pick (cel b e cur) As r) (hr : RowOf xs cap cur) (hl : xs.length = m) (k : JX G Q l n base L D (Row e (.slice (some ⟨b, 0, none⟩) m cap) xs :: r)) : JX G Q l n base L D As :=
  ⟨fun w hw => k.run w ((hw.pick q).torow hr hl)⟩
/-- What is behind the row's end may be anything. -/
theorem RowOf.set {xs : List Value} {cap i : Nat} {cur : Array Value} {v : Value} (h : RowOf xs cap cur) (hi : i < xs.length) : RowOf (xs.set i v) cap (cur.setIfInBounds i v) := by
  refine ⟨by simpa using h.le, h.lt, by simp [h.size], ?_⟩
  rw [List.length_set, Array.toList_setIfInBounds, List.take_set, h.take]
theorem RowOf.set_end {xs : List Value} {cap l : Nat} {cur : Array Value} {v : Value} (h : RowOf xs cap cur) (hl : xs.length = l) (hi : l < cap) : RowOf (xs ++ [v]) cap (cur.setIfInBounds l v) := by
  subst hl
  refine ⟨by simp; omega, h.lt, by simp [h.size], ?_⟩
  rw [List.length_append, List.length_singleton, Array.toList_setIfInBounds, List.take_set, List.take_add_one, h.take]
  have hs : xs.length < cur.toList.length := by rw [Array.length_toList (xs := cur), h.size]; exact hi
  rw [List.getElem?_eq_getElem hs]
  simp
theorem RowOf.grow {xs : List Value} {cap : Nat} {cur : Array Value} {v : Value} (h : RowOf xs cap cur) (hl : xs.length < cap) (hv : cur[xs.length]? = some v) : RowOf (xs ++ [v]) cap cur := by
  refine ⟨by simp; omega, h.lt, h.size, ?_⟩
  rw [List.length_append, List.length_singleton, List.take_add_one, h.take]
  congr 1
  rw [← Array.getElem?_toList] at hv
  rw [hv]; rfl
end
theorem catch_idle (w : World) : CallsD Tryz.prog 96 #[] .returning w fun e u' w' => e = .returned (.tuple #[]) ∧ u' = .returning ∧ w' = w := by
  have hnn : ∀ w, (binOp .neq 20 .nilIface .nilIface).run Tryz.prog w = .ok (.bool false) w := fun w => Go.Lib.run_neq_nil_nil w Tryz.underlying20
  refine callsD_of_wpS Tryz.func96 rfl fun c₀ cs hu => ?_
  apply wpS_seq
  apply wpS_region
  simp [wpOpsS, go_sem, recoverD, hu, hnn, Tryz.ntmps96, Exit.thenS]
  refine wpS_cond (t := false) (by simp [Act.eval, Array.replicate]) ?_
  simp only [Bool.false_eq_true, if_false]
  refine wpS_of_wp (wp_skip ?_)
  cases c₀
  simp_all [bodyPostS, results, Tryz.results96]
end Go.Proofs.YtfpepghmbeoanaaGreatDoor
end

section
namespace Lz

/-- What is coded: a bit by the chance at place ix of row id, or an even bit. -/
inductive Ev where
  | bit (id ix : Nat) (b : Bool)
  | even (b : Bool)
deriving DecidableEq

abbrev PM := Nat → Nat → Nat

def updP (p : Nat) (b : Bool) : Nat := if b then p - p / 32 else p + (2048 - p) / 32
def upd (M : PM) (id ix : Nat) (b : Bool) : PM := fun i j => if i = id ∧ j = ix then updP (M id ix) b else M i j
def PMok (M : PM) : Prop := ∀ i j, 31 ≤ M i j ∧ M i j ≤ 2017
def evM (M : PM) : Ev → PM
  | .bit id ix b => upd M id ix b
  | .even _ => M

theorem updP_ok {p : Nat} (b : Bool) (h : 31 ≤ p ∧ p ≤ 2017) : 31 ≤ updP p b ∧ updP p b ≤ 2017 := by
  unfold updP
  cases b
  · simp only [Bool.false_eq_true, if_false]; omega
  · simp only [if_true]; omega
theorem upd_ok {M : PM} (h : PMok M) (id ix : Nat) (b : Bool) : PMok (upd M id ix b) := by
  intro i j
  unfold upd
  split
  · exact updP_ok b (h id ix)
  · exact h i j
theorem evM_ok {M : PM} (h : PMok M) (e : Ev) : PMok (evM M e) := by
  cases e with
  | bit id ix b => exact upd_ok h id ix b
  | even b => exact h
def evsM (M : PM) (l : List Ev) : PM := l.foldl evM M
theorem evsM_ok {M : PM} (h : PMok M) (l : List Ev) : PMok (evsM M l) := by
  induction l generalizing M with
  | nil => exact h
  | cons e l ih => exact ih (evM_ok h e)
theorem evsM_append (M : PM) (a b : List Ev) : evsM M (a ++ b) = evsM (evsM M a) b := by simp [evsM]

structure Enc where
  low : Nat
  span : Nat
  cache : Nat
  held : Nat
  out : List Nat

def Enc.shift (E : Enc) : Enc :=
  if E.low % 4294967296 < 4278190080 ∨ 4294967296 ≤ E.low then
    { low := E.low % 16777216 * 256, span := E.span, cache := E.low / 16777216 % 256, held := 1,
      out := E.out ++ ((E.cache + E.low / 4294967296) % 256 :: List.replicate (E.held - 1) ((255 + E.low / 4294967296) % 256)) }
  else { low := E.low % 16777216 * 256, span := E.span, cache := E.cache, held := E.held + 1, out := E.out }
def Enc.norm (E : Enc) : Enc := if E.span < 16777216 then ({ E with span := E.span * 256 }).shift else E
def Enc.pre (E : Enc) (p : Nat) (b : Bool) : Enc :=
  if b then { E with low := E.low + E.span / 2048 * p, span := E.span - E.span / 2048 * p } else { E with span := E.span / 2048 * p }
def Enc.preE (E : Enc) (b : Bool) : Enc := if b then { E with low := E.low + E.span / 2, span := E.span / 2 } else { E with span := E.span / 2 }
def Enc.bit (E : Enc) (p : Nat) (b : Bool) : Enc := (E.pre p b).norm
def Enc.even (E : Enc) (b : Bool) : Enc := (E.preE b).norm
def Enc.ev (M : PM) (E : Enc) : Ev → Enc
  | .bit id ix b => E.bit (M id ix) b
  | .even b => E.even b
def Enc.evs : PM → Enc → List Ev → Enc
  | _, E, [] => E
  | M, E, e :: l => Enc.evs (evM M e) (E.ev M e) l
theorem Enc.evs_append (M : PM) (E : Enc) (a b : List Ev) : Enc.evs M E (a ++ b) = Enc.evs (evsM M a) (Enc.evs M E a) b := by
  induction a generalizing M E with
  | nil => rfl
  | cons e a ih => simp only [List.cons_append, Enc.evs, ih]; rfl
def Enc.start : Enc := { low := 0, span := 4294967295, cache := 0, held := 1, out := [] }

def num (l : List Nat) : Nat := l.foldl (fun a x => a * 256 + x) 0
theorem foldl_num (l : List Nat) : ∀ a, l.foldl (fun a x => a * 256 + x) a = a * 256 ^ l.length + num l := by
  induction l with
  | nil => intro a; simp [num]
  | cons x l ih =>
    intro a
    have h1 := ih (a * 256 + x)
    have h2 := ih (0 * 256 + x)
    simp only [List.foldl_cons, List.length_cons, num] at *
    rw [h1, h2, Nat.pow_succ]
    simp only [Nat.zero_mul, Nat.zero_add, Nat.add_mul, Nat.mul_assoc, Nat.mul_comm 256, Nat.add_assoc]
theorem num_append (a b : List Nat) : num (a ++ b) = num a * 256 ^ b.length + num b := by
  unfold num; rw [List.foldl_append, foldl_num]; rfl
theorem num_cons (x : Nat) (l : List Nat) : num (x :: l) = x * 256 ^ l.length + num l := by
  have := num_append [x] l
  simpa [num] using this
theorem num_nil : num [] = 0 := rfl
theorem num_lt (l : List Nat) (h : ∀ x ∈ l, x < 256) : num l < 256 ^ l.length := by
  induction l with
  | nil => simp [num]
  | cons x l ih =>
    rw [num_cons, List.length_cons, Nat.pow_succ]
    have h1 := ih (fun y hy => h y (List.mem_cons_of_mem _ hy))
    have h2 : x < 256 := h x (by simp)
    have : (x + 1) * 256 ^ l.length ≤ 256 * 256 ^ l.length := Nat.mul_le_mul_right _ (by omega)
    rw [Nat.add_mul] at this
    rw [Nat.mul_comm _ 256]; omega
theorem num_ff (k : Nat) : num (List.replicate k 255) + 1 = 256 ^ k := by
  induction k with
  | zero => simp [num]
  | succ k ih => rw [List.replicate_succ, num_cons, List.length_replicate, Nat.pow_succ]; omega
theorem num_zeros (k : Nat) : num (List.replicate k 0) = 0 := by
  induction k with
  | zero => rfl
  | succ k ih => rw [List.replicate_succ, num_cons, ih]; omega

/-- The whole number that stands in the coder. -/
def Enc.B (E : Enc) : Nat := num (E.out ++ E.cache :: List.replicate (E.held - 1) 255)
def Enc.V (E : Enc) : Nat := E.B * 4294967296 + E.low
def Enc.cnt (E : Enc) : Nat := E.out.length + E.held
/-- s: how wide the span is (or less). -/
structure Enc.Inv (E : Enc) (s : Nat) : Prop where
  held : 1 ≤ E.held
  cache : E.cache < 256
  bytes : ∀ x ∈ E.out, x < 256
  pos : 1 ≤ s
  low : E.low + s ≤ 8589934592
  room : E.V + s ≤ (num E.out + 1) * 256 ^ E.held * 4294967296

theorem Enc.B_eq (E : Enc) (h : 1 ≤ E.held) : E.B + 1 = num E.out * 256 ^ E.held + (E.cache + 1) * 256 ^ (E.held - 1) := by
  unfold Enc.B
  rw [num_append, num_cons]
  simp only [List.length_cons, List.length_replicate]
  have h1 := num_ff (E.held - 1)
  have h2 : E.held - 1 + 1 = E.held := by omega
  rw [h2, Nat.add_mul]
  omega

theorem Enc.Inv.mono {E : Enc} {s s' : Nat} (h : E.Inv s) (h1 : 1 ≤ s') (h2 : s' ≤ s) : E.Inv s' :=
  ⟨h.held, h.cache, h.bytes, h1, by have := h.low; omega, by have := h.room; omega⟩

theorem Enc.shift_spec {E : Enc} {s : Nat} (h : E.Inv s) (hs : s ≤ 16777216) :
    (E.shift).V = 256 * E.V ∧ (E.shift).cnt = E.cnt + 1 ∧ (E.shift).Inv (256 * s) := by
  have hB := E.B_eq h.held
  have hlow := h.low
  have hroom := h.room
  have hpos := h.pos
  have hheld := h.held
  have hcache := h.cache
  by_cases hc : E.low % 4294967296 < 4278190080 ∨ 4294967296 ≤ E.low
  · have e : E.shift = { low := E.low % 16777216 * 256, span := E.span, cache := E.low / 16777216 % 256, held := 1, out := E.out ++ ((E.cache + E.low / 4294967296) % 256 :: List.replicate (E.held - 1) ((255 + E.low / 4294967296) % 256)) } := by
      unfold Enc.shift; rw [if_pos hc]
    have hc1 : E.low / 4294967296 ≤ 1 := by omega
    -- the value of the bytes that are put out
    have hout : num (E.shift).out = E.B + E.low / 4294967296 ∧ (∀ x ∈ (E.shift).out, x < 256) ∧ (E.shift).out.length = E.out.length + E.held := by
      rw [e]
      simp only
      refine ⟨?_, ?_, by simp; omega⟩
      · by_cases hz : E.low / 4294967296 = 0
        · rw [hz]
          simp only [Nat.add_zero]
          rw [Nat.mod_eq_of_lt hcache]
          rfl
        · have h1 : E.low / 4294967296 = 1 := by omega
          rw [h1]
          have hx : E.cache + 1 < 256 := by
            have h2 : (E.B + 1) * 4294967296 < (num E.out + 1) * 256 ^ E.held * 4294967296 := by
              have : E.V = E.B * 4294967296 + E.low := rfl
              omega
            have h3 : E.B + 1 < (num E.out + 1) * 256 ^ E.held := Nat.lt_of_mul_lt_mul_right h2
            rw [hB, Nat.add_mul (num E.out), Nat.one_mul] at h3
            have h4 : (E.cache + 1) * 256 ^ (E.held - 1) < 256 ^ E.held := by
              generalize (E.cache + 1) * 256 ^ (E.held - 1) = x1 at *
              generalize num E.out * 256 ^ E.held = x2 at *
              generalize 256 ^ E.held = x3 at *
              omega
            have h5 : 256 ^ E.held = 256 * 256 ^ (E.held - 1) := by
              rw [show E.held = (E.held - 1) + 1 from by omega, Nat.pow_succ]; simp [Nat.mul_comm]
            rw [h5] at h4
            exact Nat.lt_of_mul_lt_mul_right h4
          rw [Nat.mod_eq_of_lt hx]
          rw [num_append, num_cons]
          have e2 : (255 + 1) % 256 = 0 := rfl
          rw [e2, num_zeros]
          simp only [List.length_cons, List.length_replicate, Nat.add_zero]
          rw [hB, show E.held - 1 + 1 = E.held from by omega]
      · intro x hx
        simp only [List.mem_append, List.mem_cons, List.mem_replicate] at hx
        rcases hx with hx | hx | hx
        · exact h.bytes x hx
        · omega
        · omega
    obtain ⟨ho1, ho2, ho3⟩ := hout
    have eB : (E.shift).B = num (E.shift).out * 256 + E.low / 16777216 % 256 := by
      unfold Enc.B
      rw [num_append, e]
      simp [num]
    have eV : (E.shift).V = 256 * E.V := by
      unfold Enc.V
      rw [eB, ho1]
      have : (E.shift).low = E.low % 16777216 * 256 := by rw [e]
      rw [this]
      omega
    refine ⟨eV, by unfold Enc.cnt; rw [ho3, e], ?_⟩
    refine ⟨by rw [e]; simp, by rw [e]; simp only; omega, ho2, by omega, by rw [e]; simp only; omega, ?_⟩
    rw [eV, ho1]
    have : (E.shift).held = 1 := by rw [e]
    rw [this]
    have : E.V = E.B * 4294967296 + E.low := rfl
    rw [this]
    omega
  · have e : E.shift = { low := E.low % 16777216 * 256, span := E.span, cache := E.cache, held := E.held + 1, out := E.out } := by
      unfold Enc.shift; rw [if_neg hc]
    have hh : E.held + 1 - 1 = (E.held - 1) + 1 := by omega
    have eB : (E.shift).B = E.B * 256 + 255 := by
      unfold Enc.B
      rw [e]
      simp only
      rw [hh, List.replicate_succ', ← List.cons_append, ← List.append_assoc, num_append]
      simp [num]
    have eV : (E.shift).V = 256 * E.V := by
      unfold Enc.V
      rw [eB]
      have : (E.shift).low = E.low % 16777216 * 256 := by rw [e]
      rw [this]
      omega
    refine ⟨eV, by unfold Enc.cnt; rw [e]; simp only; omega, ?_⟩
    refine ⟨by rw [e]; simp, by rw [e]; exact hcache, by rw [e]; exact h.bytes, by omega, by rw [e]; simp only; omega, ?_⟩
    rw [eV]
    have e1 : (E.shift).held = E.held + 1 := by rw [e]
    have e2 : (E.shift).out = E.out := by rw [e]
    rw [e1, e2, Nat.pow_succ]
    have : (num E.out + 1) * (256 ^ E.held * 256) * 4294967296 = 256 * ((num E.out + 1) * 256 ^ E.held * 4294967296) := by
      rw [← Nat.mul_assoc]
      generalize (num E.out + 1) * 256 ^ E.held = t
      omega
    rw [this]
    omega

/-- A step of normalising: how often (0 or 1) it shifts. -/
def Enc.k (E : Enc) : Nat := if E.span < 16777216 then 1 else 0
theorem Enc.norm_spec {E : Enc} (h : E.Inv E.span) (hlo : 65536 ≤ E.span) (hhi : E.span < 4294967296) :
    (E.norm).V = 256 ^ E.k * E.V ∧ (E.norm).cnt = E.cnt + E.k ∧ (E.norm).Inv (E.norm).span ∧ (E.norm).span = 256 ^ E.k * E.span ∧ 16777216 ≤ (E.norm).span ∧ (E.norm).span < 4294967296 := by
  unfold Enc.norm Enc.k
  by_cases hc : E.span < 16777216
  · simp only [if_pos hc, Nat.pow_one]
    have h' : ({ E with span := E.span * 256 } : Enc).Inv E.span := ⟨h.held, h.cache, h.bytes, h.pos, h.low, h.room⟩
    obtain ⟨a, b, c⟩ := Enc.shift_spec h' (by omega)
    have hsp : (({ E with span := E.span * 256 } : Enc).shift).span = E.span * 256 := by unfold Enc.shift; split <;> rfl
    refine ⟨a, b, ?_, by rw [hsp]; omega, by rw [hsp]; omega, by rw [hsp]; omega⟩
    rw [hsp, Nat.mul_comm E.span]; simpa [Nat.mul_comm] using c
  · simp only [if_neg hc, Nat.pow_zero, Nat.one_mul, Nat.add_zero]
    exact ⟨trivial, trivial, h, trivial, by omega, hhi⟩

/-- How far an event goes up, and how wide it leaves the span. -/
def evOff (M : PM) (r : Nat) : Ev → Nat
  | .bit id ix b => if b then r / 2048 * M id ix else 0
  | .even b => if b then r / 2 else 0
def evWid (M : PM) (r : Nat) : Ev → Nat
  | .bit id ix b => if b then r - r / 2048 * M id ix else r / 2048 * M id ix
  | .even _ => r / 2
theorem evWid_spec {M : PM} (hM : PMok M) {r : Nat} (hr : 16777216 ≤ r) (hr2 : r < 4294967296) (e : Ev) : 65536 ≤ evWid M r e ∧ evOff M r e + evWid M r e ≤ r := by
  cases e with
  | bit id ix b =>
    have h := hM id ix
    have h1 : r / 2048 * 31 ≤ r / 2048 * M id ix := Nat.mul_le_mul_left _ h.1
    have h2 : r / 2048 * M id ix ≤ r / 2048 * 2017 := Nat.mul_le_mul_left _ h.2
    unfold evWid evOff
    cases b
    · simp only [Bool.false_eq_true, if_false]; omega
    · simp only [if_true]; omega
  | even b => unfold evWid evOff; cases b <;> simp <;> omega
def evK (M : PM) (r : Nat) (e : Ev) : Nat := if evWid M r e < 16777216 then 1 else 0

theorem Enc.ev_spec {M : PM} (hM : PMok M) {E : Enc} (h : E.Inv E.span) (hlo : 16777216 ≤ E.span) (hhi : E.span < 4294967296) (e : Ev) :
    (E.ev M e).V = 256 ^ evK M E.span e * (E.V + evOff M E.span e) ∧ (E.ev M e).cnt = E.cnt + evK M E.span e ∧ (E.ev M e).Inv (E.ev M e).span ∧
    (E.ev M e).span = 256 ^ evK M E.span e * evWid M E.span e ∧ 16777216 ≤ (E.ev M e).span ∧ (E.ev M e).span < 4294967296 := by
  obtain ⟨w1, w2⟩ := evWid_spec hM hlo hhi e
  -- the state ahead of normalising
  have key : ∃ E1 : Enc, E.ev M e = E1.norm ∧ E1.low = E.low + evOff M E.span e ∧ E1.span = evWid M E.span e ∧ E1.cache = E.cache ∧ E1.held = E.held ∧ E1.out = E.out := by
    cases e with
    | bit id ix b =>
      refine ⟨E.pre (M id ix) b, rfl, ?_⟩
      unfold Enc.pre evOff evWid
      cases b <;> simp
    | even b =>
      refine ⟨E.preE b, rfl, ?_⟩
      unfold Enc.preE evOff evWid
      cases b <;> simp
  obtain ⟨E1, e0, e1, e2, e3, e4, e5⟩ := key
  have eB : E1.B = E.B := by unfold Enc.B; rw [e3, e4, e5]
  have eV : E1.V = E.V + evOff M E.span e := by unfold Enc.V; rw [eB, e1]; omega
  have hI : E1.Inv E1.span := by
    refine ⟨by rw [e4]; exact h.held, by rw [e3]; exact h.cache, by rw [e5]; exact h.bytes, by omega, by have := h.low; omega, ?_⟩
    rw [eV, e5, e4, e2]; have := h.room; omega
  have hk : E1.k = evK M E.span e := by unfold Enc.k evK; rw [e2]
  obtain ⟨a, b, c, d, f, g⟩ := Enc.norm_spec hI (by omega) (by omega)
  rw [e0]
  refine ⟨by rw [a, hk, eV], by rw [b, hk]; unfold Enc.cnt; rw [e5, e4], c, by rw [d, hk, e2], f, g⟩

theorem Enc.evs_spec (l : List Ev) : ∀ {M : PM} (_ : PMok M) {E : Enc} (_ : E.Inv E.span) (_ : 16777216 ≤ E.span) (_ : E.span < 4294967296),
    ∃ n, (Enc.evs M E l).cnt = E.cnt + n ∧ E.V * 256 ^ n ≤ (Enc.evs M E l).V ∧ (Enc.evs M E l).V + (Enc.evs M E l).span ≤ (E.V + E.span) * 256 ^ n ∧ n ≤ l.length ∧
      (Enc.evs M E l).Inv (Enc.evs M E l).span ∧ 16777216 ≤ (Enc.evs M E l).span ∧ (Enc.evs M E l).span < 4294967296 := by
  induction l with
  | nil => intro M hM E h h1 h2; exact ⟨0, rfl, by simp [Enc.evs], by simp [Enc.evs], Nat.le_refl _, h, h1, h2⟩
  | cons e l ih =>
    intro M hM E h h1 h2
    obtain ⟨a, b, c, d, f, g⟩ := Enc.ev_spec hM h h1 h2 e
    obtain ⟨w1, w2⟩ := evWid_spec hM h1 h2 e
    obtain ⟨n, p, q, r, u, v⟩ := ih (evM_ok hM e) c f g
    have hk1 : evK M E.span e ≤ 1 := by unfold evK; split <;> omega
    refine ⟨n + evK M E.span e, by simp only [Enc.evs]; omega, ?_, ?_, by simp; omega, v⟩
    · simp only [Enc.evs]
      refine Nat.le_trans ?_ q
      rw [a, Nat.pow_add]
      have : E.V ≤ E.V + evOff M E.span e := by omega
      calc E.V * (256 ^ n * 256 ^ evK M E.span e) = (256 ^ evK M E.span e * E.V) * 256 ^ n := by rw [Nat.mul_comm (256 ^ evK M E.span e) E.V, Nat.mul_assoc, Nat.mul_comm (256 ^ n)]
        _ ≤ _ := Nat.mul_le_mul_right _ (Nat.mul_le_mul_left _ this)
    · simp only [Enc.evs]
      refine Nat.le_trans r ?_
      rw [a, d, ← Nat.mul_add, Nat.pow_add]
      have : E.V + evOff M E.span e + evWid M E.span e ≤ E.V + E.span := by omega
      calc 256 ^ evK M E.span e * (E.V + evOff M E.span e + evWid M E.span e) * 256 ^ n ≤ 256 ^ evK M E.span e * (E.V + E.span) * 256 ^ n := Nat.mul_le_mul_right _ (Nat.mul_le_mul_left _ this)
        _ = _ := by rw [Nat.mul_comm (256 ^ evK M E.span e), Nat.mul_assoc, Nat.mul_comm (256 ^ n)]

/-! ### The decoder -/
/-- The bytes rb tell the events evs to a decoder with range r and code c. -/
def DecOK : PM → Nat → Nat → List Nat → List Ev → Prop
  | _, _, c, rb, [] => c = 0 ∧ rb = []
  | M, r, c, rb, e :: l =>
    (16777216 ≤ r ∧ r < 4294967296) ∧ evOff M r e ≤ c ∧ c < evOff M r e + evWid M r e ∧
      if evWid M r e < 16777216 then ∃ x rb', rb = x :: rb' ∧ x < 256 ∧ DecOK (evM M e) (evWid M r e * 256) ((c - evOff M r e) * 256 + x) rb' l
      else DecOK (evM M e) (evWid M r e) (c - evOff M r e) rb l

theorem dec_ok (l : List Ev) : ∀ {M : PM} (_ : PMok M) {E : Enc} (_ : E.Inv E.span) (_ : 16777216 ≤ E.span) (_ : E.span < 4294967296) (c : Nat) (rb : List Nat) (_ : ∀ x ∈ rb, x < 256),
    (Enc.evs M E l).cnt = E.cnt + rb.length → (E.V + c) * 256 ^ rb.length + num rb = (Enc.evs M E l).V → DecOK M E.span c rb l := by
  induction l with
  | nil =>
    intro M hM E h h1 h2 c rb hrb hn hV
    have : rb = [] := by simpa [Enc.evs] using hn
    subst this
    simp [Enc.evs, num] at hV
    exact ⟨hV, rfl⟩
  | cons e l ih =>
    intro M hM E h h1 h2 c rb hrb hn hV
    obtain ⟨a, b, c', d, f, g⟩ := Enc.ev_spec hM h h1 h2 e
    obtain ⟨w1, w2⟩ := evWid_spec hM h1 h2 e
    obtain ⟨n, p, q, r, u, v⟩ := Enc.evs_spec l (evM_ok hM e) c' f g
    simp only [Enc.evs] at hn hV
    have hk1 : evK M E.span e ≤ 1 := by unfold evK; split <;> omega
    have hlen : rb.length = evK M E.span e + n := by omega
    have hnum := num_lt rb hrb
    have hpos : 0 < 256 ^ rb.length := Nat.pow_pos (by omega)
    -- the bounds on c
    have e1 : (Enc.ev M E e).V * 256 ^ n = (E.V + evOff M E.span e) * 256 ^ rb.length := by
      rw [a, hlen, Nat.pow_add, Nat.mul_comm (256 ^ evK M E.span e), Nat.mul_assoc]
    have e2 : ((Enc.ev M E e).V + (Enc.ev M E e).span) * 256 ^ n = (E.V + evOff M E.span e + evWid M E.span e) * 256 ^ rb.length := by
      rw [a, d, ← Nat.mul_add, hlen, Nat.pow_add, Nat.mul_comm (256 ^ evK M E.span e), Nat.mul_assoc]
    have hlo : evOff M E.span e ≤ c := by
      rw [e1, ← hV] at q
      have : (E.V + evOff M E.span e) * 256 ^ rb.length < (E.V + c + 1) * 256 ^ rb.length := by rw [Nat.add_mul (E.V + c)]; omega
      have := Nat.lt_of_mul_lt_mul_right this
      omega
    have hhi : c < evOff M E.span e + evWid M E.span e := by
      rw [e2, ← hV] at r
      have hs : 0 < (Enc.evs (evM M e) (E.ev M e) l).span := by omega
      have : (E.V + c) * 256 ^ rb.length < (E.V + evOff M E.span e + evWid M E.span e) * 256 ^ rb.length := by omega
      have := Nat.lt_of_mul_lt_mul_right this
      omega
    refine ⟨⟨h1, h2⟩, hlo, hhi, ?_⟩
    by_cases hc : evWid M E.span e < 16777216
    · rw [if_pos hc]
      have hk : evK M E.span e = 1 := by unfold evK; rw [if_pos hc]
      rw [hk] at a b d hlen
      obtain ⟨x, rb', rfl⟩ : ∃ x rb', rb = x :: rb' := by
        cases rb with
        | nil => simp at hlen; omega
        | cons x rb' => exact ⟨x, rb', rfl⟩
      · refine ⟨x, rb', rfl, hrb x (by simp), ?_⟩
        have hsp : (E.ev M e).span = evWid M E.span e * 256 := by rw [d]; omega
        rw [← hsp]
        simp only [List.length_cons] at hn hlen hV
        refine ih (evM_ok hM e) c' f g _ _ (fun y hy => hrb y (by simp [hy])) (by omega) ?_
        rw [← hV, num_cons, a, show (256 : Nat) ^ 1 = 256 from rfl, show 256 ^ (rb'.length + 1) = 256 ^ rb'.length * 256 from Nat.pow_succ ..]
        have : E.V + c = E.V + evOff M E.span e + (c - evOff M E.span e) := by omega
        rw [this]
        generalize E.V + evOff M E.span e = s
        generalize c - evOff M E.span e = t
        generalize 256 ^ rb'.length = z
        generalize num rb' = y
        have : (256 * s + (t * 256 + x)) * z = (s + t) * (z * 256) + x * z := by
          rw [show 256 * s + (t * 256 + x) = (s + t) * 256 + x from by omega, Nat.add_mul, Nat.mul_assoc, Nat.mul_comm 256 z]
        rw [this]; omega
    · rw [if_neg hc]
      have hk : evK M E.span e = 0 := by unfold evK; rw [if_neg hc]
      rw [hk] at a b d hlen
      have hsp : (E.ev M e).span = evWid M E.span e := by rw [d]; omega
      rw [← hsp]
      refine ih (evM_ok hM e) c' f g _ _ hrb (by omega) ?_
      rw [← hV, a]
      have : 256 ^ 0 * (E.V + evOff M E.span e) + (c - evOff M E.span e) = E.V + c := by omega
      rw [this]

/-! ### From the start to the last byte -/
def Enc.flush (E : Enc) : Enc := E.shift.shift.shift.shift.shift
theorem Enc.shift_low (E : Enc) : E.shift.low = E.low % 16777216 * 256 := by unfold Enc.shift; split <;> rfl
theorem Enc.start_inv : Enc.start.Inv Enc.start.span := ⟨by decide, by decide, by intro x hx; simp [Enc.start] at hx, by decide, by decide, by simp [Enc.start, Enc.V, Enc.B, num]⟩
theorem Enc.start_V : Enc.start.V = 0 := by simp [Enc.start, Enc.V, Enc.B, num]
theorem Enc.flush_spec {E : Enc} (h : E.Inv E.span) : num E.flush.out = E.V ∧ E.flush.out.length = E.cnt + 4 ∧ ∀ x ∈ E.flush.out, x < 256 := by
  have h0 : E.Inv 1 := h.mono (Nat.le_refl _) h.pos
  obtain ⟨a1, b1, c1⟩ := Enc.shift_spec h0 (by omega)
  obtain ⟨a2, b2, c2⟩ := Enc.shift_spec (c1.mono (s' := 1) (by omega) (by omega)) (by omega)
  obtain ⟨a3, b3, c3⟩ := Enc.shift_spec (c2.mono (s' := 1) (by omega) (by omega)) (by omega)
  obtain ⟨a4, b4, c4⟩ := Enc.shift_spec (c3.mono (s' := 1) (by omega) (by omega)) (by omega)
  obtain ⟨a5, b5, c5⟩ := Enc.shift_spec (c4.mono (s' := 1) (by omega) (by omega)) (by omega)
  have l1 := Enc.shift_low E
  have l2 := Enc.shift_low E.shift
  have l3 := Enc.shift_low E.shift.shift
  have l4 := Enc.shift_low E.shift.shift.shift
  have hz : E.shift.shift.shift.shift.low = 0 := by omega
  unfold Enc.flush
  generalize E.shift.shift.shift.shift = F at *
  have e5 : F.shift = { low := 0, span := F.span, cache := 0, held := 1, out := F.shift.out } := by
    unfold Enc.shift
    rw [if_pos (by omega)]
    simp [hz]
  have hV : F.shift.V = num F.shift.out * 256 * 4294967296 := by
    rw [e5]
    unfold Enc.V Enc.B
    simp [num]
  have hC : F.shift.cnt = F.shift.out.length + 1 := by rw [e5]; rfl
  refine ⟨by omega, by omega, c5.bytes⟩

/-- THE RANGE CODER: the decoder is told the events by the bytes that the coder puts for them. The first byte is 0; four bytes make the first code. -/
theorem stream_ok {M : PM} (hM : PMok M) (l : List Ev) :
    ∃ x1 x2 x3 x4 rb, (Enc.evs M Enc.start l).flush.out = 0 :: x1 :: x2 :: x3 :: x4 :: rb ∧ (∀ x ∈ (Enc.evs M Enc.start l).flush.out, x < 256) ∧
      num [x1, x2, x3, x4] < 4294967295 ∧ DecOK M 4294967295 (num [x1, x2, x3, x4]) rb l ∧ rb.length ≤ l.length := by
  obtain ⟨n, p, q, r, u, v, v1, v2⟩ := Enc.evs_spec l hM Enc.start_inv (by decide) (by decide)
  obtain ⟨f1, f2, f3⟩ := Enc.flush_spec v
  generalize hE : Enc.evs M Enc.start l = E at *
  have hc : Enc.start.cnt = 1 := rfl
  have hlen : E.flush.out.length = n + 5 := by omega
  generalize E.flush.out = o at *
  match o, hlen with
  | x0 :: x1 :: x2 :: x3 :: x4 :: rb, hlen =>
    simp only [List.length_cons] at hlen
    have hn : rb.length = n := by omega
    have hsp : Enc.start.span = 4294967295 := rfl
    rw [Enc.start_V, hsp, Nat.zero_add] at r
    have hnum : num (x0 :: x1 :: x2 :: x3 :: x4 :: rb) = num [x0, x1, x2, x3, x4] * 256 ^ rb.length + num rb := by
      rw [← num_append]; rfl
    have hlt : num [x0, x1, x2, x3, x4] < 4294967295 := by
      rw [f1] at hnum
      rw [← hn] at r
      have : num [x0, x1, x2, x3, x4] * 256 ^ rb.length < 4294967295 * 256 ^ rb.length := by omega
      exact Nat.lt_of_mul_lt_mul_right this
    have h5 : num [x0, x1, x2, x3, x4] = x0 * 4294967296 + num [x1, x2, x3, x4] := by
      rw [num_cons]
      have : 256 ^ [x1, x2, x3, x4].length = 4294967296 := by simp
      rw [this]
    have h0 : x0 = 0 := by omega
    subst h0
    refine ⟨x1, x2, x3, x4, rb, rfl, f3, by omega, ?_, by omega⟩
    have := dec_ok l hM Enc.start_inv (by decide) (by decide) (num [x1, x2, x3, x4]) rb (fun x hx => f3 x (by simp [hx])) (by rw [hE, hn]; exact p) (by
      rw [Enc.start_V, Nat.zero_add, hE, ← f1, hnum, h5]; simp)
    exact this

end Lz
end
