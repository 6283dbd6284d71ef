/-
Pieces of texts through the filters: how far a filter has come, and what is left.
Bytes in cells: set, taken apart, laid behind each other.
Words of four bytes in memory; sizes of filters.
-/
import Derived.Test.YtfpepghmbeoanaaGreatDoorR03
set_option linter.unusedSimpArgs false
set_option linter.unusedVariables false
section
namespace Go.Proofs.YtfpepghmbeoanaaGreatDoor.Bx
theorem fl_xor (k v : Nat) : v ^^^ (2 ^ k - 1) = fl (2 ^ k) v := by
  have hK : 0 < 2 ^ k := Nat.two_pow_pos k
  have hm := Nat.mod_lt v hK
  apply Nat.eq_of_testBit_eq
  intro i
  have e : 2 ^ k - 1 - v % 2 ^ k = 2 ^ k - (v % 2 ^ k + 1) := by omega
  unfold fl
  rw [Nat.testBit_xor, Nat.testBit_two_pow_sub_one, Nat.mul_comm, e, Nat.testBit_two_pow_mul_add _ (by omega), Nat.testBit_two_pow_sub_succ hm, Nat.testBit_mod_two_pow, Nat.testBit_div_two_pow]
  by_cases h : i < k
  · simp [h]
  · simp [h, Nat.sub_add_cancel (Nat.le_of_not_lt h)]
theorem drop1 {xs : List Nat} {p : Nat} (h : p < xs.length) : xs.drop p = xs.getD p 0 :: xs.drop (p + 1) := by
  rw [List.drop_eq_getElem_cons h]
  simp [List.getD_eq_getElem?_getD, h]
theorem drop4 {xs : List Nat} {p : Nat} (h : p + 4 ≤ xs.length) : xs.drop p = xs.getD p 0 :: xs.getD (p + 1) 0 :: xs.getD (p + 2) 0 :: xs.getD (p + 3) 0 :: xs.drop (p + 4) := by
  rw [drop1 (by omega), drop1 (p := p + 1) (by omega), drop1 (p := p + 2) (by omega), drop1 (p := p + 3) (by omega)]
theorem drop5 {xs : List Nat} {p : Nat} (h : p + 5 ≤ xs.length) : xs.drop p = xs.getD p 0 :: xs.getD (p + 1) 0 :: xs.getD (p + 2) 0 :: xs.getD (p + 3) 0 :: xs.getD (p + 4) 0 :: xs.drop (p + 5) := by
  rw [drop4 (by omega), drop1 (p := p + 4) (by omega)]
theorem cat_get {out xs : List Nat} {pos j : Nat} (hl : out.length = pos) (hj : pos ≤ j) : (out ++ xs.drop pos).getD j 0 = xs.getD j 0 := by
  subst hl
  simp only [List.getD_eq_getElem?_getD]
  rw [List.getElem?_append_right hj, List.getElem?_drop]
  congr 2; omega
theorem cat_len {out xs : List Nat} {pos : Nat} (hl : out.length = pos) (hp : pos ≤ xs.length) : (out ++ xs.drop pos).length = xs.length := by
  rw [List.length_append, List.length_drop]; omega
theorem cat_next {out xs : List Nat} {pos : Nat} (hp : pos < xs.length) : (out ++ [xs.getD pos 0]) ++ xs.drop (pos + 1) = out ++ xs.drop pos := by
  rw [drop1 hp, List.append_assoc]; rfl
theorem cat_set {out xs : List Nat} {pos j v : Nat} (hl : out.length = pos) : (out ++ xs).set (pos + j) v = out ++ xs.set j v := by
  subst hl
  rw [List.set_append_right _ _ (by omega)]
  congr 2; omega
theorem cat_conv {out xs : List Nat} {pos y1 y2 y3 y4 z : Nat} (hl : out.length = pos) (hp : pos + 5 ≤ xs.length) :
    (((((out ++ xs.drop pos).set (pos + 1) y1).set (pos + 2) y2).set (pos + 3) y3).set (pos + 4) z).set (pos + 4) y4 = (out ++ [xs.getD pos 0, y1, y2, y3, y4]) ++ xs.drop (pos + 5) := by
  rw [cat_set hl, cat_set hl, cat_set hl, cat_set hl, cat_set hl, drop5 hp, List.append_assoc]
  rfl
theorem cat_word {out xs : List Nat} {pos y0 y1 y2 y3 : Nat} (hl : out.length = pos) (hp : pos + 4 ≤ xs.length) :
    ((((out ++ xs.drop pos).set (pos + 0) y0).set (pos + 1) y1).set (pos + 2) y2).set (pos + 3) y3 = (out ++ [y0, y1, y2, y3]) ++ xs.drop (pos + 4) := by
  rw [cat_set hl, cat_set hl, cat_set hl, cat_set hl, drop4 hp, List.append_assoc]
  rfl
theorem dec_nop {p m x0 x1 x2 x3 x4 : Nat} {r : List Nat} (h : op x0 = false) : dec p m (x0 :: x1 :: x2 :: x3 :: x4 :: r) = x0 :: dec (p + 1) (m / 2) (x1 :: x2 :: x3 :: x4 :: r) := by
  rw [dec]; rw [if_neg (by rw [h]; decide)]
theorem dec_left {p m x0 x1 x2 x3 x4 : Nat} {r : List Nat} (h : op x0 = true) (hs : skip m x1 x2 x3 = true ∨ far x4 = false) : dec p m (x0 :: x1 :: x2 :: x3 :: x4 :: r) = x0 :: dec (p + 1) (m / 2 + 4) (x1 :: x2 :: x3 :: x4 :: r) := by
  rw [dec]; rw [if_pos h]
  rcases hs with hs | hs
  · rw [if_pos hs]
  · rw [if_neg (c := far x4 = true) (by rw [hs]; decide)]; split <;> rfl
theorem dec_conv {p m x0 x1 x2 x3 x4 v : Nat} {r : List Nat} (h : op x0 = true) (hs : skip m x1 x2 x3 = false) (hf : far x4 = true) (hv : dec1 (p + 5) (mn m) (le x1 x2 x3 x4) = v) : dec p m (x0 :: x1 :: x2 :: x3 :: x4 :: r) = x0 :: by1 v :: by2 v :: by3 v :: by4 v :: dec (p + 5) 0 r := by
  subst hv
  rw [dec]; rw [if_pos h, if_neg (by rw [hs]; decide), if_pos hf]
/-- How far it is undone: 'pos' bytes, which are 'out'. -/
structure DecP (ip m : Nat) (xs : List Nat) (pos mk : Nat) (out : List Nat) : Prop where
  len : out.length = pos
  le : pos ≤ xs.length
  m7 : mk ≤ 7
  eq : ∀ rest, dec ip m (xs ++ rest) = out ++ dec (ip + pos) mk (xs.drop pos ++ rest)
theorem DecP.zero {ip m : Nat} {xs : List Nat} (hm : m ≤ 7) : DecP ip m xs 0 m [] := ⟨rfl, Nat.zero_le _, hm, fun rest => by simp⟩
theorem DecP.nop {ip m pos mk : Nat} {xs out : List Nat} (h : DecP ip m xs pos mk out) (hp : pos + 5 ≤ xs.length) (hn : op (xs.getD pos 0) = false) : DecP ip m xs (pos + 1) (mk / 2) (out ++ [xs.getD pos 0]) := by
  refine ⟨by simp [h.len], by omega, by have := h.m7; omega, fun rest => ?_⟩
  rw [h.eq rest, drop5 hp]
  simp only [List.cons_append]
  rw [dec_nop hn, drop4 (p := pos + 1) (by omega), List.append_assoc]
  rfl
theorem DecP.left {ip m pos mk : Nat} {xs out : List Nat} (h : DecP ip m xs pos mk out) (hp : pos + 5 ≤ xs.length) (hn : op (xs.getD pos 0) = true) (hs : skip mk (xs.getD (pos + 1) 0) (xs.getD (pos + 2) 0) (xs.getD (pos + 3) 0) = true ∨ far (xs.getD (pos + 4) 0) = false) : DecP ip m xs (pos + 1) (mk / 2 + 4) (out ++ [xs.getD pos 0]) := by
  refine ⟨by simp [h.len], by omega, by have := h.m7; omega, fun rest => ?_⟩
  rw [h.eq rest, drop5 hp]
  simp only [List.cons_append]
  rw [dec_left hn hs, drop4 (p := pos + 1) (by omega), List.append_assoc]
  rfl
theorem DecP.conv {ip m pos mk v : Nat} {xs out : List Nat} (h : DecP ip m xs pos mk out) (hp : pos + 5 ≤ xs.length) (hn : op (xs.getD pos 0) = true) (hs : skip mk (xs.getD (pos + 1) 0) (xs.getD (pos + 2) 0) (xs.getD (pos + 3) 0) = false) (hf : far (xs.getD (pos + 4) 0) = true)
    (hv : dec1 (ip + pos + 5) (mn mk) (Bx.le (xs.getD (pos + 1) 0) (xs.getD (pos + 2) 0) (xs.getD (pos + 3) 0) (xs.getD (pos + 4) 0)) = v) : DecP ip m xs (pos + 5) 0 (out ++ [xs.getD pos 0, by1 v, by2 v, by3 v, by4 v]) := by
  refine ⟨by simp [h.len], by omega, by omega, fun rest => ?_⟩
  rw [h.eq rest, drop5 hp]
  simp only [List.cons_append]
  rw [dec_conv hn hs hf hv, List.append_assoc]
  rfl
/-- How far it is done. -/
structure EncP (xs : List Nat) (pos : Nat) (h : H) (out : List Nat) : Prop where
  len : out.length = pos
  le : pos ≤ xs.length
  ok : h.Ok (xs.drop pos)
  eq : enc 0 H.none xs = out ++ enc pos h (xs.drop pos)
theorem EncP.zero {xs : List Nat} : EncP xs 0 H.none [] := ⟨rfl, Nat.zero_le _, H.none_ok _, rfl⟩
theorem enc_nop {p x0 x1 x2 x3 x4 : Nat} {h : H} {r : List Nat} (ho : op x0 = false) : enc p h (x0 :: x1 :: x2 :: x3 :: x4 :: r) = x0 :: enc (p + 1) (h.next .none) (x1 :: x2 :: x3 :: x4 :: r) := by
  rw [enc]; rw [if_neg (by rw [ho]; decide)]
theorem enc_left {p x0 x1 x2 x3 x4 : Nat} {h : H} {r : List Nat} (ho : op x0 = true) (hc : far x4 = false ∨ 4 ≤ h.n) : enc p h (x0 :: x1 :: x2 :: x3 :: x4 :: r) = x0 :: enc (p + 1) (h.next (some (far x4))) (x1 :: x2 :: x3 :: x4 :: r) := by
  rw [enc]; rw [if_pos ho, if_neg]
  rcases hc with hc | hc
  · simp [hc]
  · simp; omega
theorem enc_conv {p x0 x1 x2 x3 x4 e : Nat} {h : H} {r : List Nat} (ho : op x0 = true) (hf : far x4 = true) (hn : h.n < 4) (he : enc1 (p + 5) h.n (le x1 x2 x3 x4) = e) : enc p h (x0 :: x1 :: x2 :: x3 :: x4 :: r) = x0 :: by1 e :: by2 e :: by3 e :: by4 e :: enc (p + 5) H.none r := by
  subst he
  rw [enc]; rw [if_pos ho, if_pos (by simp [hf, hn])]
theorem EncP.nop {pos : Nat} {h : H} {xs out : List Nat} (k : EncP xs pos h out) (hp : pos + 5 ≤ xs.length) (hn : op (xs.getD pos 0) = false) : EncP xs (pos + 1) (h.next .none) (out ++ [xs.getD pos 0]) := by
  have ko := k.ok
  have ke := k.eq
  rw [drop5 hp] at ko ke
  have e4 := drop4 (xs := xs) (p := pos + 1) (by omega)
  refine ⟨by simp [k.len], by omega, ?_, ?_⟩
  · rw [e4]; exact ko.next .none fun f e => by simp at e
  · rw [ke, enc_nop hn, e4, List.append_assoc]; rfl
theorem EncP.left {pos : Nat} {h : H} {xs out : List Nat} (k : EncP xs pos h out) (hp : pos + 5 ≤ xs.length) (hn : op (xs.getD pos 0) = true) (hc : far (xs.getD (pos + 4) 0) = false ∨ 4 ≤ h.n) : EncP xs (pos + 1) (h.next (some (far (xs.getD (pos + 4) 0)))) (out ++ [xs.getD pos 0]) := by
  have ko := k.ok
  have ke := k.eq
  rw [drop5 hp] at ko ke
  have e4 := drop4 (xs := xs) (p := pos + 1) (by omega)
  refine ⟨by simp [k.len], by omega, ?_, ?_⟩
  · rw [e4]; exact ko.next _ fun f e => Option.some.inj e
  · rw [ke, enc_left hn hc, e4, List.append_assoc]; rfl
theorem EncP.conv {pos e : Nat} {h : H} {xs out : List Nat} (k : EncP xs pos h out) (hp : pos + 5 ≤ xs.length) (hn : op (xs.getD pos 0) = true) (hf : far (xs.getD (pos + 4) 0) = true) (h4 : h.n < 4)
    (he : enc1 (pos + 5) h.n (Bx.le (xs.getD (pos + 1) 0) (xs.getD (pos + 2) 0) (xs.getD (pos + 3) 0) (xs.getD (pos + 4) 0)) = e) : EncP xs (pos + 5) H.none (out ++ [xs.getD pos 0, by1 e, by2 e, by3 e, by4 e]) := by
  have ke := k.eq
  rw [drop5 hp] at ke
  refine ⟨by simp [k.len], by omega, H.none_ok _, ?_⟩
  rw [ke, enc_conv hn hf h4 he, List.append_assoc]; rfl
theorem EncP.last {pos : Nat} {h : H} {xs out : List Nat} (k : EncP xs pos h out) (hp : xs.length < pos + 5) : out ++ xs.drop pos = enc 0 H.none xs := by
  rw [k.eq, enc_short (by rw [List.length_drop]; omega)]
/-- Near a flip: what the next look says. -/
theorem EncP.near {pos : Nat} {h : H} {xs out : List Nat} (k : EncP xs pos h out) (hb : Byte xs) (hp : pos + 5 ≤ xs.length) (hf : far (xs.getD (pos + 4) 0) = true) (h4 : h.n < 4) {e : Nat}
    (he : enc1 (pos + 5) h.n (Bx.le (xs.getD (pos + 1) 0) (xs.getD (pos + 2) 0) (xs.getD (pos + 3) 0) (xs.getD (pos + 4) 0)) = e) : (h.n = 1 → far (by3 e) = false) ∧ (h.n = 2 → far (by2 e) = false) ∧ (h.n = 3 → far (by1 e) = false) := by
  have ko := k.ok
  rw [drop5 hp] at ko
  have hg : ∀ j, j < xs.length → xs.getD j 0 < 256 := fun j hj => by
    rw [List.getD_eq_getElem?_getD, List.getElem?_eq_getElem hj]; exact hb _ (List.getElem_mem hj)
  obtain ⟨n1, n2, n3⟩ := hn_of _ ko (by rfl) (by rfl) (by rfl) h4
  have g := good (cur := pos + 5) (hg (pos + 1) (by omega)) (hg (pos + 2) (by omega)) (hg (pos + 3) (by omega)) (far_iff.1 hf) h4 n1 n2 n3
  subst he
  exact g.near
/-! ### The mask of the reference -/
def shm (m : Nat) : Nat := (m &&& 119) * 2
def H.hm (h : H) : Nat := (if h.a.isSome then 2 else 0) + (if h.b.isSome then 4 else 0) + (if h.c.isSome then 8 else 0) + (if h.a = some true then 32 else 0) + (if h.b = some true then 64 else 0) + (if h.c = some true then 128 else 0)
def shn : Nat → Nat → Nat
  | 0, m => m
  | k + 1, m => shn k (shm m)
theorem shn_succ : ∀ (k m : Nat), shn (k + 1) m = shm (shn k m)
  | 0, _ => rfl
  | k + 1, m => shn_succ k (shm m)
theorem hm_next (h : H) : shm h.hm = (h.next .none).hm := by
  rcases h with ⟨_ | _ | _, _ | _ | _, _ | _ | _⟩ <;> rfl
theorem hm_left (h : H) (f : Bool) : shm (h.hm + 1 + (if f then 16 else 0)) = (h.next (some f)).hm := by
  rcases h with ⟨_ | _ | _, _ | _ | _, _ | _ | _⟩ <;> cases f <;> rfl
theorem hm_none : H.none.hm = 0 := rfl
theorem shn_zero : ∀ k, shn k 0 = 0
  | 0 => rfl
  | k + 1 => shn_zero k
set_option maxRecDepth 10000 in
theorem shn4 : ∀ m, m < 256 → shn 4 m = 0 := by decide
theorem shn_far {k m : Nat} (hm : m < 256) (hk : 4 ≤ k) : shn k m = 0 := by
  obtain ⟨j, rfl⟩ : ∃ j, k = j + 4 := ⟨k - 4, by omega⟩
  induction j with
  | zero => rw [Nat.zero_add]; exact shn4 m hm
  | succ j ih => rw [show j + 1 + 4 = j + 4 + 1 by omega, shn_succ, ih (by omega)]; rfl
theorem hm_lt (h : H) : h.hm < 239 ∧ h.hm % 2 = 0 ∧ h.hm / 16 % 2 = 0 := by
  rcases h with ⟨_ | _ | _, _ | _ | _, _ | _ | _⟩ <;> decide
/-- Which masks are let through. -/
theorem hm_n (h : H) : (h.n = 0 ∧ h.hm = 0) ∨ (h.n = 1 ∧ h.hm = 2) ∨ (h.n = 2 ∧ h.hm = 4) ∨ (h.n = 3 ∧ h.hm = 8) ∨ (4 ≤ h.n ∧ (16 ≤ h.hm / 2 ∨ (h.hm / 2 % 8 = 3 ∨ 5 ≤ h.hm / 2 % 8))) := by
  rcases h with ⟨_ | _ | _, _ | _ | _, _ | _ | _⟩ <;> decide
/-! ### Words -/
theorem wmap_short {g : Nat → W4 → W4} {p : Nat} {l : List Nat} (h : l.length < 4) : wmap g p l = l := by
  rcases l with _ | ⟨a, _ | ⟨b, _ | ⟨c, _ | ⟨d, r⟩⟩⟩⟩ <;> first | rfl | (simp at h; omega)
structure WmP (g : Nat → W4 → W4) (ip : Nat) (xs : List Nat) (i : Nat) (out : List Nat) : Prop where
  len : out.length = i
  le : i ≤ xs.length
  mod : i % 4 = 0
  eq : ∀ rest, wmap g ip (xs ++ rest) = out ++ wmap g (ip + i) (xs.drop i ++ rest)
theorem WmP.zero {g : Nat → W4 → W4} {ip : Nat} {xs : List Nat} : WmP g ip xs 0 [] := ⟨rfl, Nat.zero_le _, rfl, fun rest => by simp⟩
theorem WmP.word {g : Nat → W4 → W4} {ip i : Nat} {xs out : List Nat} (h : WmP g ip xs i out) (hp : i + 4 ≤ xs.length) {y : W4} (hy : g (ip + i) (xs.getD i 0, xs.getD (i + 1) 0, xs.getD (i + 2) 0, xs.getD (i + 3) 0) = y) : WmP g ip xs (i + 4) (out ++ [y.1, y.2.1, y.2.2.1, y.2.2.2]) := by
  have hm := h.mod
  refine ⟨by simp [h.len], by omega, by omega, fun rest => ?_⟩
  rw [h.eq rest, drop4 hp]
  simp only [List.cons_append, wmap]
  rw [hy, List.append_assoc]
  rfl
theorem WmP.last {g : Nat → W4 → W4} {ip i : Nat} {xs out : List Nat} (h : WmP g ip xs i out) (hp : xs.length < i + 4) : out ++ xs.drop i = wmap g ip xs := by
  have := h.eq []
  rw [List.append_nil, List.append_nil] at this
  rw [this, wmap_short (by rw [List.length_drop]; omega)]
theorem dec_len : ∀ (k : Nat) (l : List Nat), l.length ≤ k → ∀ p m, (dec p m l).length = l.length := by
  intro k
  induction k with
  | zero => intro l hl p m; rw [dec_short (by omega)]
  | succ k ih =>
    intro l hl p m
    rcases l with _ | ⟨x0, _ | ⟨x1, _ | ⟨x2, _ | ⟨x3, _ | ⟨x4, r⟩⟩⟩⟩⟩
    · rw [dec_short (by simp)]
    · rw [dec_short (by simp)]
    · rw [dec_short (by simp)]
    · rw [dec_short (by simp)]
    · rw [dec_short (by simp)]
    simp only [List.length_cons] at hl
    have h1 := ih (x1 :: x2 :: x3 :: x4 :: r) (by simp only [List.length_cons]; omega)
    have h2 := ih r (by omega)
    rw [dec]
    split
    · split
      · rw [List.length_cons, h1]; rfl
      · split
        · simp only [List.length_cons]; rw [h2]
        · rw [List.length_cons, h1]; rfl
    · rw [List.length_cons, h1]; rfl
theorem wmap_len (g : Nat → W4 → W4) : ∀ (k : Nat) (l : List Nat), l.length ≤ k → ∀ p, (wmap g p l).length = l.length := by
  intro k
  induction k with
  | zero => intro l hl p; rw [wmap_short (by omega)]
  | succ k ih =>
    intro l hl p
    rcases l with _ | ⟨x0, _ | ⟨x1, _ | ⟨x2, _ | ⟨x3, r⟩⟩⟩⟩
    · rfl
    · rfl
    · rfl
    · rfl
    simp only [List.length_cons] at hl
    simp only [wmap, List.length_cons]
    rw [ih r (by omega)]
end Go.Proofs.YtfpepghmbeoanaaGreatDoor.Bx
end

section
open Go Go.RowKit
namespace Go.Proofs.YtfpepghmbeoanaaGreatDoor
/-! ### Guards that hang on what was passed over -/
section
variable {P : Program} {G : Gst} {ops : Array Oper} {Q : Exit → Act → World → Prop} {n : Nat} {base : Nat → Value} {L : List (Nat × Value)} {D : List Deferred} {As r : List Asn}
theorem frm_unyielded (ops : Array Oper) (j : Nat) {t : Nat} (h : (ops[j]?).bind (·.dst) = some t) (hv : ev n base L (.tmp t) = undef) : yielded ops (frm n base L D).tmps j = none := by
  unfold yielded
  rw [h]
  simp only [Option.bind_some, frm]
  by_cases ht : t < n
  · have h2 := blt_t ht
    have : look base L t = undef := by simpa [ev, h2] using hv
    simp [ht, this, undef]
  · simp [ht]
theorem JO.skipU {d : Nat} {op : Op} {ty : TypeId} {pos : String} {aft : Array Edge} {rest : List Oper} {j t : Nat} {b : Bool} (hd : (ops[j]?).bind (·.dst) = some t) (hv : ev n base L (.tmp t) = undef)
    (k : JO P G ops Q rest n base ((d, undef) :: L) D As) : JO P G ops Q (⟨some d, op, ty, pos, aft, some (j, b)⟩ :: rest) n base L D As := by
  refine ⟨fun w hw => ?_⟩
  refine wpList_step fun K hK => ?_
  have hw' : Region.wanted (⟨some d, op, ty, pos, aft, some (j, b)⟩ : Oper) (yielded ops (frm n base L D).tmps) = false := by
    simp only [Region.wanted, frm_unyielded ops j hd hv]; rfl
  rw [hw']
  simp only [Bool.false_eq_true, if_false]
  refine hK _ _ ?_
  rw [show (frm n base L D).put _ _ = _ from frm_put d _]
  exact k.run w hw
end
theorem RdOk.set {cs : Array Value} {o j v p : Nat} {bs : List Nat} (h : RdOk cs o bs) (hj : j < bs.length) (hs : o + bs.length ≤ cs.size) (hv : v < 256) (hp : p = o + j) : RdOk (cs.setIfInBounds p (vu8 v)) o (bs.set j v) := by
  subst hp
  intro i hi
  rw [List.length_set] at hi
  obtain ⟨h1, h2⟩ := h i hi
  by_cases e : i = j
  · subst e
    have : (bs.set i v).getD i 0 = v := by simp [List.getD_eq_getElem?_getD, hi]
    rw [this]
    exact ⟨by rw [Array.getElem?_setIfInBounds_self, if_pos (by omega)], hv⟩
  · have : (bs.set j v).getD i 0 = bs.getD i 0 := by simp [List.getD_eq_getElem?_getD, List.getElem?_set_ne (Ne.symm e)]
    rw [this]
    refine ⟨?_, h2⟩
    rw [Array.getElem?_setIfInBounds_ne (by omega)]
    exact h1
theorem RdOk.drop {cs : Array Value} {o k p : Nat} {bs : List Nat} (h : RdOk cs o bs) (hp : p = o + k) : RdOk cs p (bs.drop k) := by
  subst hp
  intro i hi
  rw [List.length_drop] at hi
  have := h (k + i) (by omega)
  have e : (bs.drop k).getD i 0 = bs.getD (k + i) 0 := by simp [List.getD_eq_getElem?_getD]
  rw [e, Nat.add_assoc]
  exact this
theorem splice_get {ps : Array Value} {o k : Nat} {news : List Value} (h : o + news.length ≤ ps.size) : (splice ps o news)[k]? = if k < o then ps[k]? else if k < o + news.length then news[k - o]? else ps[k]? := by
  have hl : (ps.toList.take o).length = o := by rw [List.length_take, Array.length_toList]; omega
  unfold splice
  rw [List.getElem?_toArray]
  split
  · rename_i hk
    rw [List.append_assoc, List.getElem?_append_left (by omega), List.getElem?_take_of_lt hk, Array.getElem?_toList]
  · rename_i hk
    split
    · rename_i hk2
      rw [List.append_assoc, List.getElem?_append_right (by omega), hl, List.getElem?_append_left (by omega)]
    · rename_i hk2
      rw [List.getElem?_append_right (by rw [List.length_append]; omega), List.length_append, hl, List.getElem?_drop, Array.getElem?_toList]
      congr 1; omega
/-- What is laid behind bytes. -/
theorem RdOk.fill {ps : Array Value} {o po : Nat} {xs ys : List Nat} {l : List Value} (h : RdOk ps o xs) (hp : o + xs.length = po) (hy : ∀ y ∈ ys, y < 256) (hl : l = u8s ys) (hs : po + ys.length ≤ ps.size) : RdOk (splice ps po l) o (xs ++ ys) := by
  subst hl hp
  intro i hi
  rw [List.length_append] at hi
  rw [splice_get (by rw [u8s_len]; omega), u8s_len]
  by_cases hx : i < xs.length
  · have e : (xs ++ ys).getD i 0 = xs.getD i 0 := by simp [List.getD_eq_getElem?_getD, List.getElem?_append_left hx]
    rw [e, if_pos (by omega)]
    exact h i hx
  · have hj : i - xs.length < ys.length := by omega
    have e : (xs ++ ys).getD i 0 = ys[i - xs.length] := by
      rw [List.getD_eq_getElem?_getD, List.getElem?_append_right (by omega), List.getElem?_eq_getElem hj]; rfl
    rw [e, if_neg (by omega), if_pos (by omega)]
    refine ⟨?_, hy _ (List.getElem_mem hj)⟩
    rw [show o + i - (o + xs.length) = i - xs.length by omega]
    simp [u8s, hj]
/-- Bytes moved to the front. -/
theorem RdOk.front {ps : Array Value} {ys : List Nat} {l : List Value} (hy : ∀ y ∈ ys, y < 256) (hl : l = u8s ys) (hs : ys.length ≤ ps.size) : RdOk (splice ps 0 l) 0 ys := by
  have h : RdOk ps 0 [] := fun i hi => absurd hi (by simp)
  exact h.fill rfl hy hl (by simpa using hs)
theorem RdOk.row {cur : Array Value} {bs : List Nat} {cap : Nat} (h : RdOk cur 0 bs) (hs : cur.size = cap) (hl : bs.length ≤ cap) (hc : cap < 9223372036854775808) : RowOf (u8s bs) cap cur := by
  refine ⟨by rw [u8s_len]; exact hl, hc, hs, ?_⟩
  rw [u8s_len]
  apply List.ext_getElem?
  intro i
  by_cases hi : i < bs.length
  · rw [List.getElem?_take_of_lt hi, Array.getElem?_toList]
    have := (h i hi).1
    rw [Nat.zero_add] at this
    rw [this]
    simp [u8s, hi]
  · rw [List.getElem?_eq_none (by rw [List.length_take]; omega), List.getElem?_eq_none (by rw [u8s_len]; omega)]
theorem RdOk.piece0 {cs : Array Value} {o m : Nat} {bs : List Nat} (hb : RdOk cs o bs) (h : m ≤ bs.length) : ∀ j v, (u8s (bs.take m))[j]? = some v → cs[o + j]? = some v := by
  intro j v hv
  have hj : j < m := by
    have := (List.getElem?_eq_some_iff.1 hv).1
    rw [u8s_len, List.length_take] at this
    omega
  rw [(hb j (by omega)).1]
  simp [u8s, List.getElem?_take, hj, show j < bs.length by omega] at hv ⊢
  exact hv
theorem RdOk.at {cs : Array Value} {o i p : Nat} {bs : List Nat} (h : RdOk cs o bs) (hi : i < bs.length) (hp : p = o + i) : cs[p]? = some (vu8 (bs.getD i 0)) := by
  subst hp; exact (h i hi).1
theorem RdOk.lt1 {cs : Array Value} {o i : Nat} {bs : List Nat} (h : RdOk cs o bs) (hi : i < bs.length) : bs.getD i 0 < 256 := (h i hi).2
theorem RdOk.nil (cs : Array Value) (o : Nat) : RdOk cs o [] := fun i hi => absurd hi (by simp)
end Go.Proofs.YtfpepghmbeoanaaGreatDoor
end

section
open Go Go.RowKit
namespace Go.Proofs.YtfpepghmbeoanaaGreatDoor
theorem or_lo {k a x y : Nat} (h : x < 2 ^ k) (hy : y = a * 2 ^ k) : x ||| y = x + y := by
  subst hy
  rw [Nat.or_comm, or_hi h, Nat.add_comm]
theorem far_con (G : Gst) (x : Nat) : Con Tryz.prog G 33 #[vu8 x] [] (fun _ : Unit => .bool (Bx.far x)) (fun _ => []) := by
  by_cases h0 : x = 0
  · skip
    subst h0
    refine Con.intro Tryz.func33 rfl (by kernel_rfl) Tryz.ntmps33 (Nat.le_of_ble_eq_true rfl) ?_
    intro F
    show JC _ _ _ _ _ _ [(0, _)] _ [_]
    refine sR ?_
    refine oC ?_
    refine nC (sR ?_)
    refine oM ?_
    first | refine oD (Py.eql xe ev_const) ?_ | refine oU (Py.eql xe ev_const) ?_ | refine JO.py (Py.eql xe ev_const) ?_
    refine oM ?_
    first | (refine gF ?_; (refine oM ?_)) | refine kT ?_
    first | (refine gF ?_; (first | refine oD (Py.eql xe ev_const) ?_ | refine oU (Py.eql xe ev_const) ?_ | refine JO.py (Py.eql xe ev_const) ?_)) | refine kT ?_
    first | refine JO.py (Py.pickT xe ev_const) ?_ | refine JO.py (Py.pickF xe xe) ?_
    refine oA ?_
    refine nC (JC.ret ?_)
    refine JX.end1 (Or.inl rfl) (()) Tryz.results33 ((xe).trans (by rfl)) xpkE
  · skip
    by_cases h1 : x = 255
    · skip
      subst h1
      refine Con.intro Tryz.func33 rfl (by kernel_rfl) Tryz.ntmps33 (Nat.le_of_ble_eq_true rfl) ?_
      intro F
      show JC _ _ _ _ _ _ [(0, _)] _ [_]
      refine sR ?_
      refine oC ?_
      refine nC (sR ?_)
      refine oM ?_
      first | refine oD (Py.eql xe ev_const) ?_ | refine oU (Py.eql xe ev_const) ?_ | refine JO.py (Py.eql xe ev_const) ?_
      refine oM ?_
      first | (refine gF ?_; (refine oM ?_)) | refine kT ?_
      first | (refine gF ?_; (first | refine oD (Py.eql xe ev_const) ?_ | refine oU (Py.eql xe ev_const) ?_ | refine JO.py (Py.eql xe ev_const) ?_)) | refine kT ?_
      first | refine JO.py (Py.pickT xe ev_const) ?_ | refine JO.py (Py.pickF xe xe) ?_
      refine oA ?_
      refine nC (JC.ret ?_)
      refine JX.end1 (Or.inl rfl) (()) Tryz.results33 ((xe).trans (by rfl)) xpkE
    · skip
      rw [Bx.far_false.2 ⟨h0, h1⟩]
      refine Con.intro Tryz.func33 rfl (by kernel_rfl) Tryz.ntmps33 (Nat.le_of_ble_eq_true rfl) ?_
      intro F
      show JC _ _ _ _ _ _ [(0, _)] _ [_]
      refine sR ?_
      refine oC ?_
      refine nC (sR ?_)
      refine oM ?_
      first | refine oD (Py.eql xe ev_const) ?_ | refine oU (Py.eql xe ev_const) ?_ | refine JO.py (Py.eql xe ev_const) ?_
      refine oM ?_
      first | (refine gF ?_; (refine oM ?_)) | refine kT ?_
      first | (refine gF ?_; (first | refine oD (Py.eql xe ev_const) ?_ | refine oU (Py.eql xe ev_const) ?_ | refine JO.py (Py.eql xe ev_const) ?_)) | refine kT ?_
      first | refine JO.py (Py.pickT xe ev_const) ?_ | refine JO.py (Py.pickF xe xe) ?_
      refine oA ?_
      refine nC (JC.ret ?_)
      refine JX.end1 (Or.inl rfl) (()) Tryz.results33 ((xe).trans (by first | exact xval | (dsimp only; exact xval))) xpkE
set_option maxRecDepth 100000 in
theorem test86_con (G : Gst) (x : Nat) (hx : x < 256) : Con Tryz.prog G 260 #[vu8 x] [] (fun _ : Unit => .bool (Bx.far x)) (fun _ => []) := by
  have ht : ∀ y, y < 256 → (((y + 1) % 256 &&& 254) = 0 ↔ Bx.far y = true) := by decide
  have htx := ht x hx
  refine Con.intro Tryz.func260 rfl (by kernel_rfl) Tryz.ntmps260 (Nat.le_of_ble_eq_true rfl) ?_
  intro F
  show JC _ _ _ _ _ _ [(0, _)] _ [_]
  refine sR ?_
  refine oC ?_
  refine nC (sR ?_)
  refine oM ?_
  refine JO.py (Py.add (c := (((x + 1) % 256 : Nat) : Int)) xe ev_const (by rw [m_u8]; omega)) ?_
  refine JO.py (Py.to (Py.andN xe ev_const (r_u8 (by omega)) (r_u8 (by omega)) (by decide)) (v' := .int .u8 (((x + 1) % 256 &&& 254 : Nat) : Int)) (vint (by rfl))) ?_
  generalize (x + 1) % 256 &&& 254 = z at htx ⊢
  cases hf : Bx.far x
  · skip
    have hz : z ≠ 0 := fun h => by rw [htx.1 h] at hf; cases hf
    first | refine oD (Py.eql xe ev_const) ?_ | refine oU (Py.eql xe ev_const) ?_ | refine JO.py (Py.eql xe ev_const) ?_
    refine oA ?_
    refine nC (JC.ret ?_)
    refine JX.end1 (Or.inl rfl) (()) Tryz.results260 ((xe).trans (by first | exact xval | (dsimp only; exact xval))) xpkE
  · skip
    obtain rfl : z = 0 := htx.2 hf
    first | refine oD (Py.eql xe ev_const) ?_ | refine oU (Py.eql xe ev_const) ?_ | refine JO.py (Py.eql xe ev_const) ?_
    refine oA ?_
    refine nC (JC.ret ?_)
    refine JX.end1 (Or.inl rfl) (()) Tryz.results260 ((xe).trans (by first | exact xval | (dsimp only; exact xval))) xpkE
theorem size5_con (G : Gst) (p : Value) (A : Asn) : Con Tryz.prog G 191 #[p] [A] (fun _ : Unit => .int .i64 ((5 : Nat) : Int)) (fun _ => [A]) := by
  refine Con.intro Tryz.func191 rfl (by kernel_rfl) Tryz.ntmps191 (Nat.le_of_ble_eq_true rfl) ?_
  intro F
  show JC _ _ _ _ _ _ [(0, _)] _ [_, _]
  refine sR ?_
  refine oC ?_
  refine nC (sR ?_)
  refine oC ?_
  refine nC (JC.ret ?_)
  refine JX.end1 (Or.inl rfl) (()) Tryz.results191 ((xe).trans (by first | exact xval | (dsimp only; exact xval))) xpkE
theorem size4_203 (G : Gst) (p : Value) (A : Asn) : Con Tryz.prog G 203 #[p] [A] (fun _ : Unit => .int .i64 ((4 : Nat) : Int)) (fun _ => [A]) := by
  refine Con.intro Tryz.func203 rfl (by kernel_rfl) Tryz.ntmps203 (Nat.le_of_ble_eq_true rfl) ?_
  intro F
  show JC _ _ _ _ _ _ [(0, _)] _ [_, _]
  refine sR ?_
  refine oC ?_
  refine nC (sR ?_)
  refine oC ?_
  refine nC (JC.ret ?_)
  refine JX.end1 (Or.inl rfl) (()) Tryz.results203 ((xe).trans (by first | exact xval | (dsimp only; exact xval))) xpkE
theorem size4_204 (G : Gst) (p : Value) (A : Asn) : Con Tryz.prog G 204 #[p] [A] (fun _ : Unit => .int .i64 ((4 : Nat) : Int)) (fun _ => [A]) := by
  refine Con.intro Tryz.func204 rfl (by kernel_rfl) Tryz.ntmps204 (Nat.le_of_ble_eq_true rfl) ?_
  intro F
  show JC _ _ _ _ _ _ [(0, _)] _ [_, _]
  refine sR ?_
  refine oC ?_
  refine nC (sR ?_)
  refine oC ?_
  refine nC (JC.ret ?_)
  refine JX.end1 (Or.inl rfl) (()) Tryz.results204 ((xe).trans (by first | exact xval | (dsimp only; exact xval))) xpkE
theorem size4_205 (G : Gst) (p : Value) (A : Asn) : Con Tryz.prog G 205 #[p] [A] (fun _ : Unit => .int .i64 ((4 : Nat) : Int)) (fun _ => [A]) := by
  refine Con.intro Tryz.func205 rfl (by kernel_rfl) Tryz.ntmps205 (Nat.le_of_ble_eq_true rfl) ?_
  intro F
  show JC _ _ _ _ _ _ [(0, _)] _ [_, _]
  refine sR ?_
  refine oC ?_
  refine nC (sR ?_)
  refine oC ?_
  refine nC (JC.ret ?_)
  refine JX.end1 (Or.inl rfl) (()) Tryz.results205 ((xe).trans (by first | exact xval | (dsimp only; exact xval))) xpkE
set_option maxRecDepth 100000 in
set_option maxHeartbeats 2000000 in
theorem le32_con (G : Gst) (b o m mc : Nat) (T : TypeId) (fr : Nat × Nat) (ps : Array Value) (x0 x1 x2 x3 : Nat) (hm : 4 ≤ m) (h0 : ps[o + 0]? = some (vu8 x0) ∧ x0 < 256) (h1 : ps[o + 1]? = some (vu8 x1) ∧ x1 < 256) (h2 : ps[o + 2]? = some (vu8 x2) ∧ x2 < 256) (h3 : ps[o + 3]? = some (vu8 x3) ∧ x3 < 256) :
    Con Tryz.prog G 261 #[.slice (some ⟨b, o, none⟩) m mc] [blk b (.cells ps T fr)] (fun _ : Unit => .int .u32 (Bx.le x0 x1 x2 x3 : Nat)) (fun _ => [blk b (.cells ps T fr)]) := by
  obtain ⟨g0, l0⟩ := h0
  obtain ⟨g1, l1⟩ := h1
  obtain ⟨g2, l2⟩ := h2
  obtain ⟨g3, l3⟩ := h3
  unfold Bx.le
  refine Con.intro Tryz.func261 rfl (by kernel_rfl) Tryz.ntmps261 (Nat.le_of_ble_eq_true rfl) ?_
  intro F
  show JC _ _ _ _ _ _ [(0, _)] _ [_, _]
  have e1 : (1 * x0) ||| (256 * x1) = 1 * x0 + 256 * x1 := or_lo (k := 8) (a := x1) (by omega) (by omega)
  refine sR ?_
  refine oC ?_
  refine nC (sR ?_)
  refine oM ?_
  refine JO.py (Py.idxS Tryz.underlying22 siz5 xe ev_const (by omega) xidx xmult) ?_
  refine JO.py (Py.load scal5 xe xpick xrow) ?_
  refine nC (JC.seq ?_)
  refine JC.regionD mixed (by kernel_rfl) ?_
  refine JD.py (Py.move xe) ?_
  refine JD.py (Py.idxS Tryz.underlying22 siz5 xe ev_const (by omega) xidx xmult) ?_
  refine JD.py (Py.load scal5 xe xpick xrow) ?_
  first | refine JD.py (Py.conv cnv5_45 xe (w_u32 (by omega))) ?_ | refine JD.py (Py.conv cnv5_45 xe (m_u32 _)) ?_
  refine JD.py (Py.move xe) ?_
  refine JD.py (Py.idxS Tryz.underlying22 siz5 xe ev_const (by omega) xidx xmult) ?_
  refine JD.py (Py.load scal5 xe xpick xrow) ?_
  first | refine JD.py (Py.conv cnv5_45 xe (w_u32 (by omega))) ?_ | refine JD.py (Py.conv cnv5_45 xe (m_u32 _)) ?_
  first | refine JD.py (Py.shl 8 256 xe ev_const rfl (by decide) (by decide) (w_u32 (by omega))) ?_ | refine JD.py (Py.shl 8 256 xe ev_const rfl (by decide) (by decide) (m_u32 _)) ?_
  refine JD.py (Py.to (Py.orN xe xe (r_u32 (by omega)) (r_u32 (by omega)) (by decide)) (v' := .int .u32 (1 * x0 + 256 * x1 : Nat)) (vint (or_int (by omega) (by omega) e1))) ?_
  have e2 : (1 * x0 + 256 * x1) ||| (65536 * x2) = 1 * x0 + 256 * x1 + 65536 * x2 := or_lo (k := 16) (a := x2) (by omega) (by omega)
  refine JD.py (Py.move xe) ?_
  refine JD.py (Py.idxS Tryz.underlying22 siz5 xe ev_const (by omega) xidx xmult) ?_
  refine JD.py (Py.load scal5 xe xpick xrow) ?_
  first | refine JD.py (Py.conv cnv5_45 xe (w_u32 (by omega))) ?_ | refine JD.py (Py.conv cnv5_45 xe (m_u32 _)) ?_
  first | refine JD.py (Py.shl 16 65536 xe ev_const rfl (by decide) (by decide) (w_u32 (by omega))) ?_ | refine JD.py (Py.shl 16 65536 xe ev_const rfl (by decide) (by decide) (m_u32 _)) ?_
  refine JD.py (Py.to (Py.orN xe xe (r_u32 (by omega)) (r_u32 (by omega)) (by decide)) (v' := .int .u32 (1 * x0 + 256 * x1 + 65536 * x2 : Nat)) (vint (or_int (by omega) (by omega) e2))) ?_
  have e3 : (1 * x0 + 256 * x1 + 65536 * x2) ||| (16777216 * x3) = 1 * x0 + 256 * x1 + 65536 * x2 + 16777216 * x3 := or_lo (k := 24) (a := x3) (by omega) (by omega)
  refine JD.py (Py.move xe) ?_
  refine JD.py (Py.idxS Tryz.underlying22 siz5 xe ev_const (by omega) xidx xmult) ?_
  refine JD.py (Py.load scal5 xe xpick xrow) ?_
  first | refine JD.py (Py.conv cnv5_45 xe (w_u32 (by omega))) ?_ | refine JD.py (Py.conv cnv5_45 xe (m_u32 _)) ?_
  first | refine JD.py (Py.shl 24 16777216 xe ev_const rfl (by decide) (by decide) (w_u32 (by omega))) ?_ | refine JD.py (Py.shl 24 16777216 xe ev_const rfl (by decide) (by decide) (m_u32 _)) ?_
  refine JD.py (Py.to (Py.orN xe xe (r_u32 (by omega)) (r_u32 (by omega)) (by decide)) (v' := .int .u32 (1 * x0 + 256 * x1 + 65536 * x2 + 16777216 * x3 : Nat)) (vint (or_int (by omega) (by omega) e3))) ?_
  refine JD.py (Py.assign xe) ?_
  refine JD.nilN (JX.code (JC.ret ?_))
  refine JX.end1 (Or.inl rfl) (()) Tryz.results261 ((xe).trans (by exact vint (by omega))) xpkE
set_option maxRecDepth 100000 in
set_option maxHeartbeats 2000000 in
theorem be32_con (G : Gst) (b o m mc : Nat) (T : TypeId) (fr : Nat × Nat) (ps : Array Value) (x0 x1 x2 x3 : Nat) (hm : 4 ≤ m) (h0 : ps[o + 0]? = some (vu8 x0) ∧ x0 < 256) (h1 : ps[o + 1]? = some (vu8 x1) ∧ x1 < 256) (h2 : ps[o + 2]? = some (vu8 x2) ∧ x2 < 256) (h3 : ps[o + 3]? = some (vu8 x3) ∧ x3 < 256) :
    Con Tryz.prog G 264 #[.slice (some ⟨b, o, none⟩) m mc] [blk b (.cells ps T fr)] (fun _ : Unit => .int .u32 (Bx.be (x0, x1, x2, x3) : Nat)) (fun _ => [blk b (.cells ps T fr)]) := by
  obtain ⟨g0, l0⟩ := h0
  obtain ⟨g1, l1⟩ := h1
  obtain ⟨g2, l2⟩ := h2
  obtain ⟨g3, l3⟩ := h3
  unfold Bx.be
  dsimp only
  refine Con.intro Tryz.func264 rfl (by kernel_rfl) Tryz.ntmps264 (Nat.le_of_ble_eq_true rfl) ?_
  intro F
  show JC _ _ _ _ _ _ [(0, _)] _ [_, _]
  have e1 : (1 * x3) ||| (256 * x2) = 1 * x3 + 256 * x2 := or_lo (k := 8) (a := x2) (by omega) (by omega)
  refine sR ?_
  refine oC ?_
  refine nC (sR ?_)
  refine oM ?_
  refine JO.py (Py.idxS Tryz.underlying22 siz5 xe ev_const (by omega) xidx xmult) ?_
  refine JO.py (Py.load scal5 xe xpick xrow) ?_
  refine nC (JC.seq ?_)
  refine JC.regionD mixed (by kernel_rfl) ?_
  refine JD.py (Py.move xe) ?_
  refine JD.py (Py.idxS Tryz.underlying22 siz5 xe ev_const (by omega) xidx xmult) ?_
  refine JD.py (Py.load scal5 xe xpick xrow) ?_
  first | refine JD.py (Py.conv cnv5_45 xe (w_u32 (by omega))) ?_ | refine JD.py (Py.conv cnv5_45 xe (m_u32 _)) ?_
  refine JD.py (Py.move xe) ?_
  refine JD.py (Py.idxS Tryz.underlying22 siz5 xe ev_const (by omega) xidx xmult) ?_
  refine JD.py (Py.load scal5 xe xpick xrow) ?_
  first | refine JD.py (Py.conv cnv5_45 xe (w_u32 (by omega))) ?_ | refine JD.py (Py.conv cnv5_45 xe (m_u32 _)) ?_
  first | refine JD.py (Py.shl 8 256 xe ev_const rfl (by decide) (by decide) (w_u32 (by omega))) ?_ | refine JD.py (Py.shl 8 256 xe ev_const rfl (by decide) (by decide) (m_u32 _)) ?_
  refine JD.py (Py.to (Py.orN xe xe (r_u32 (by omega)) (r_u32 (by omega)) (by decide)) (v' := .int .u32 (1 * x3 + 256 * x2 : Nat)) (vint (or_int (by omega) (by omega) e1))) ?_
  have e2 : (1 * x3 + 256 * x2) ||| (65536 * x1) = 1 * x3 + 256 * x2 + 65536 * x1 := or_lo (k := 16) (a := x1) (by omega) (by omega)
  refine JD.py (Py.move xe) ?_
  refine JD.py (Py.idxS Tryz.underlying22 siz5 xe ev_const (by omega) xidx xmult) ?_
  refine JD.py (Py.load scal5 xe xpick xrow) ?_
  first | refine JD.py (Py.conv cnv5_45 xe (w_u32 (by omega))) ?_ | refine JD.py (Py.conv cnv5_45 xe (m_u32 _)) ?_
  first | refine JD.py (Py.shl 16 65536 xe ev_const rfl (by decide) (by decide) (w_u32 (by omega))) ?_ | refine JD.py (Py.shl 16 65536 xe ev_const rfl (by decide) (by decide) (m_u32 _)) ?_
  refine JD.py (Py.to (Py.orN xe xe (r_u32 (by omega)) (r_u32 (by omega)) (by decide)) (v' := .int .u32 (1 * x3 + 256 * x2 + 65536 * x1 : Nat)) (vint (or_int (by omega) (by omega) e2))) ?_
  have e3 : (1 * x3 + 256 * x2 + 65536 * x1) ||| (16777216 * x0) = 1 * x3 + 256 * x2 + 65536 * x1 + 16777216 * x0 := or_lo (k := 24) (a := x0) (by omega) (by omega)
  refine JD.py (Py.move xe) ?_
  refine JD.py (Py.idxS Tryz.underlying22 siz5 xe ev_const (by omega) xidx xmult) ?_
  refine JD.py (Py.load scal5 xe xpick xrow) ?_
  first | refine JD.py (Py.conv cnv5_45 xe (w_u32 (by omega))) ?_ | refine JD.py (Py.conv cnv5_45 xe (m_u32 _)) ?_
  first | refine JD.py (Py.shl 24 16777216 xe ev_const rfl (by decide) (by decide) (w_u32 (by omega))) ?_ | refine JD.py (Py.shl 24 16777216 xe ev_const rfl (by decide) (by decide) (m_u32 _)) ?_
  refine JD.py (Py.to (Py.orN xe xe (r_u32 (by omega)) (r_u32 (by omega)) (by decide)) (v' := .int .u32 (1 * x3 + 256 * x2 + 65536 * x1 + 16777216 * x0 : Nat)) (vint (or_int (by omega) (by omega) e3))) ?_
  refine JD.py (Py.assign xe) ?_
  refine JD.nilN (JX.code (JC.ret ?_))
  refine JX.end1 (Or.inl rfl) (()) Tryz.results264 ((xe).trans (by exact vint (by omega))) xpkE
set_option maxRecDepth 100000 in
set_option maxHeartbeats 2000000 in
theorem putLE_con (G : Gst) (b o m mc : Nat) (cs : Array Value) (z : Value) (v y0 y1 y2 y3 : Nat) (hm : 4 ≤ m) (hs : o + 4 ≤ cs.size) (hz : cs[o + 3]? = some z) (hv : v < 4294967296) (h0 : v / 1 % 256 = y0) (h1 : v / 256 % 256 = y1) (h2 : v / 65536 % 256 = y2) (h3 : v / 16777216 % 256 = y3) :
    Con Tryz.prog G 262 #[.slice (some ⟨b, o, none⟩) m mc, .int .u32 (v : Int)] [cel b 5 cs] (fun _ : Unit => .tuple #[]) (fun _ => [cel b 5 ((((cs.setIfInBounds (o + 0) (vu8 y0)).setIfInBounds (o + 1) (vu8 y1)).setIfInBounds (o + 2) (vu8 y2)).setIfInBounds (o + 3) (vu8 y3))]) := by
  refine Con.intro Tryz.func262 rfl (by kernel_rfl) Tryz.ntmps262 (Nat.le_of_ble_eq_true rfl) ?_
  intro F
  show JC _ _ _ _ _ _ [(0, _), (1, _)] _ [_, _]
  refine sR ?_
  refine oM ?_
  refine JO.py (Py.idxS Tryz.underlying22 siz5 xe ev_const (by omega) xidx xmult) ?_
  refine JO.py (Py.load scal5 xe xpick xrow) ?_
  refine nC (JC.region ?_)
  refine oM ?_
  refine oM ?_
  refine oM ?_
  refine oM ?_
  refine oM ?_
  refine JO.py (Py.to (Py.conv cnv45_5 xe (m_u8 _)) (v' := vu8 y0) (vint (by omega))) ?_
  refine oM ?_
  refine JO.py (Py.shr 8 256 xe ev_const rfl (by decide) (by decide) (by decide)) ?_
  refine JO.py (Py.to (Py.conv cnv45_5 xe (m_u8 _)) (v' := vu8 y1) (vint (by omega))) ?_
  refine oM ?_
  refine JO.py (Py.shr 16 65536 xe ev_const rfl (by decide) (by decide) (by decide)) ?_
  refine JO.py (Py.to (Py.conv cnv45_5 xe (m_u8 _)) (v' := vu8 y2) (vint (by omega))) ?_
  refine oM ?_
  refine JO.py (Py.shr 24 16777216 xe ev_const rfl (by decide) (by decide) (by decide)) ?_
  refine JO.py (Py.to (Py.conv cnv45_5 xe (m_u8 _)) (v' := vu8 y3) (vint (by omega))) ?_
  refine JO.py (Py.idxS Tryz.underlying22 siz5 xe ev_const (by omega) xidx xmult) ?_
  refine JO.store siz5 xe xe (by first | rfl | assumption) xpick xsize xnorm ?_
  refine JO.py (Py.idxS Tryz.underlying22 siz5 xe ev_const (by omega) xidx xmult) ?_
  refine JO.store siz5 xe xe (by first | rfl | assumption) xpick xsize xnorm ?_
  refine JO.py (Py.idxS Tryz.underlying22 siz5 xe ev_const (by omega) xidx xmult) ?_
  refine JO.store siz5 xe xe (by first | rfl | assumption) xpick xsize xnorm ?_
  refine JO.py (Py.idxS Tryz.underlying22 siz5 xe ev_const (by omega) xidx xmult) ?_
  refine JO.store siz5 xe xe (by first | rfl | assumption) xpick xsize xnorm ?_
  refine JO.nil ?_
  refine JX.end0 (Or.inr rfl) (()) Tryz.results262 rfl xpkE
set_option maxRecDepth 100000 in
set_option maxHeartbeats 2000000 in
theorem putBE_con (G : Gst) (b o m mc : Nat) (cs : Array Value) (z : Value) (v y0 y1 y2 y3 : Nat) (hm : 4 ≤ m) (hs : o + 4 ≤ cs.size) (hz : cs[o + 3]? = some z) (hv : v < 4294967296) (h0 : v / 16777216 % 256 = y0) (h1 : v / 65536 % 256 = y1) (h2 : v / 256 % 256 = y2) (h3 : v / 1 % 256 = y3) :
    Con Tryz.prog G 265 #[.slice (some ⟨b, o, none⟩) m mc, .int .u32 (v : Int)] [cel b 5 cs] (fun _ : Unit => .tuple #[]) (fun _ => [cel b 5 ((((cs.setIfInBounds (o + 0) (vu8 y0)).setIfInBounds (o + 1) (vu8 y1)).setIfInBounds (o + 2) (vu8 y2)).setIfInBounds (o + 3) (vu8 y3))]) := by
  refine Con.intro Tryz.func265 rfl (by kernel_rfl) Tryz.ntmps265 (Nat.le_of_ble_eq_true rfl) ?_
  intro F
  show JC _ _ _ _ _ _ [(0, _), (1, _)] _ [_, _]
  refine sR ?_
  refine oM ?_
  refine JO.py (Py.idxS Tryz.underlying22 siz5 xe ev_const (by omega) xidx xmult) ?_
  refine JO.py (Py.load scal5 xe xpick xrow) ?_
  refine nC (JC.region ?_)
  refine oM ?_
  refine oM ?_
  refine oM ?_
  refine oM ?_
  refine oM ?_
  refine JO.py (Py.shr 24 16777216 xe ev_const rfl (by decide) (by decide) (by decide)) ?_
  refine JO.py (Py.to (Py.conv cnv45_5 xe (m_u8 _)) (v' := vu8 y0) (vint (by omega))) ?_
  refine oM ?_
  refine JO.py (Py.shr 16 65536 xe ev_const rfl (by decide) (by decide) (by decide)) ?_
  refine JO.py (Py.to (Py.conv cnv45_5 xe (m_u8 _)) (v' := vu8 y1) (vint (by omega))) ?_
  refine oM ?_
  refine JO.py (Py.shr 8 256 xe ev_const rfl (by decide) (by decide) (by decide)) ?_
  refine JO.py (Py.to (Py.conv cnv45_5 xe (m_u8 _)) (v' := vu8 y2) (vint (by omega))) ?_
  refine oM ?_
  refine JO.py (Py.to (Py.conv cnv45_5 xe (m_u8 _)) (v' := vu8 y3) (vint (by omega))) ?_
  refine JO.py (Py.idxS Tryz.underlying22 siz5 xe ev_const (by omega) xidx xmult) ?_
  refine JO.store siz5 xe xe (by first | rfl | assumption) xpick xsize xnorm ?_
  refine JO.py (Py.idxS Tryz.underlying22 siz5 xe ev_const (by omega) xidx xmult) ?_
  refine JO.store siz5 xe xe (by first | rfl | assumption) xpick xsize xnorm ?_
  refine JO.py (Py.idxS Tryz.underlying22 siz5 xe ev_const (by omega) xidx xmult) ?_
  refine JO.store siz5 xe xe (by first | rfl | assumption) xpick xsize xnorm ?_
  refine JO.py (Py.idxS Tryz.underlying22 siz5 xe ev_const (by omega) xidx xmult) ?_
  refine JO.store siz5 xe xe (by first | rfl | assumption) xpick xsize xnorm ?_
  refine JO.nil ?_
  refine JX.end0 (Or.inr rfl) (()) Tryz.results265 rfl xpkE
end Go.Proofs.YtfpepghmbeoanaaGreatDoor
end
