/-
The decoder's dictionary.
The decoder's dictionary: writing and reading.
The decoder: one operation is read.
The decoder: matches are read.
-/
import Derived.Test.YtfpepghmbeoanaaGreatDoorP07
set_option linter.unusedSimpArgs false
set_option linter.unusedVariables false
section
open Go Go.RowKit
namespace Go.Proofs.YtfpepghmbeoanaaGreatDoor
open Lz
set_option linter.unusedSimpArgs false
set_option linter.unusedVariables false
/-- The dictionary's bytes: fr of these are written. -/
def dch (all : List Nat) (fr n : Nat) : Array Value := Array.ofFn (n := n) fun j => vu8 (if j.val < fr then all.getD j.val 0 else 0)
theorem dch_size (all : List Nat) (fr n : Nat) : (dch all fr n).size = n := by simp [dch]
theorem dch_get {all : List Nat} {fr n j : Nat} (h : j < n) : (dch all fr n)[j]? = some (vu8 (if j < fr then all.getD j 0 else 0)) := by simp [dch, h]
theorem dch_old {all : List Nat} {fr n j : Nat} (h : j < n) (h2 : j < fr) : (dch all fr n)[j]? = some (vu8 (all.getD j 0)) := by rw [dch_get h, if_pos h2]
theorem dch_set {all : List Nat} {fr n : Nat} : (dch all fr n).setIfInBounds fr (vu8 (all.getD fr 0)) = dch all (fr + 1) n := by
  apply Array.ext_getElem?
  intro i
  simp only [dch, Array.getElem?_setIfInBounds, Array.getElem?_ofFn, Array.size_ofFn]
  by_cases hi : i < n
  · by_cases h : fr = i
    · subst h; simp [hi]
    · by_cases h2 : i < fr
      · simp [h, hi, h2, show i < fr + 1 by omega]
      · simp [h, hi, h2, show ¬ i < fr + 1 by omega]
  · by_cases h : fr = i
    · subst h; simp [hi]
    · simp [h, hi]
/-- These bytes of a list. -/
def piece (all : List Nat) (i m : Nat) : List Value := (List.range m).map fun j => vu8 (all.getD (i + j) 0)
theorem piece_len (all : List Nat) (i m : Nat) : (piece all i m).length = m := by simp [piece]
theorem piece_one (all : List Nat) (i m : Nat) : ∀ v ∈ piece all i m, v.oneCell' = true := by simp [piece, Value.oneCell']
theorem piece_get {all : List Nat} {i m j : Nat} {v : Value} (h : (piece all i m)[j]? = some v) : j < m ∧ v = vu8 (all.getD (i + j) 0) := by
  unfold piece at h
  rw [List.getElem?_map] at h
  by_cases hj : j < m
  · rw [List.getElem?_range hj] at h
    exact ⟨hj, (Option.some.inj h).symm⟩
  · rw [List.getElem?_eq_none (by simp; omega)] at h; simp at h
theorem dch_copy {all : List Nat} {fr n m : Nat} (h : fr + m ≤ n) : ((dch all fr n).toList.take fr ++ piece all fr m ++ (dch all fr n).toList.drop (fr + m)).toArray = dch all (fr + m) n := by
  apply Array.ext_getElem?
  intro i
  have hs : (dch all fr n).toList.length = n := by simp [dch]
  rw [List.getElem?_toArray, List.getElem?_append, List.length_append, List.length_take, piece_len, hs, Nat.min_eq_left (by omega)]
  by_cases h1 : i < fr + m
  · rw [if_pos h1, List.getElem?_append, List.length_take, hs, Nat.min_eq_left (by omega)]
    by_cases h2 : i < fr
    · rw [if_pos h2, List.getElem?_take, if_pos h2, Array.getElem?_toList, dch_old (by omega) h2, dch_old (by omega) (by omega)]
    · rw [if_neg h2]
      unfold piece
      rw [List.getElem?_map, List.getElem?_range (by omega), dch_old (by omega) h1]
      simp only [Option.map_some]
      rw [show fr + (i - fr) = i by omega]
  · rw [if_neg h1, List.getElem?_drop, Array.getElem?_toList, show fr + m + (i - (fr + m)) = i by omega]
    by_cases h3 : i < n
    · rw [dch_get h3, dch_get h3, if_neg (by omega), if_neg h1]
    · rw [Array.getElem?_eq_none (by rw [dch_size]; omega), Array.getElem?_eq_none (by rw [dch_size]; omega)]
abbrev DictC (dd db n fr re hd : Nat) : Asn := cel dd 223 #[.slice (some ⟨db, 0, none⟩) n n, .int .i64 (fr : Int), .int .i64 (re : Int), .int .i64 (hd : Int)]
abbrev DictD (db : Nat) (all : List Nat) (fr n : Nat) : Asn := cel db 5 (dch all fr n)
theorem cap_con (G : Gst) (dd db n fr re hd : Nat) (hn : 1 ≤ n ∧ n ≤ 100000) : Con Tryz.prog G 188 #[.pointer (some ⟨dd, 0, none⟩)] [DictC dd db n fr re hd] (fun _ : Unit => .int .i64 (n - 1 : Nat)) (fun _ => [DictC dd db n fr re hd]) := by
  refine Con.intro Tryz.func188 rfl (by kernel_rfl) Tryz.ntmps188 (Nat.le_of_ble_eq_true rfl) ?_
  intro F
  show JC _ _ _ _ _ _ [(0, _)] _ [_, _]
  refine JC.seq (JC.region ?_)
  refine JO.py (Py.assign ev_const) ?_
  refine JO.nil (JX.code (JC.seq (JC.region ?_)))
  refine JO.py (Py.move xe) ?_
  refine JO.py (Py.nil xe) ?_
  refine JO.py (Py.fld fld219_0 xe xoff) ?_
  refine JO.py (Py.load scal22 xe xpick xrow) ?_
  refine JO.py (Py.lenS Tryz.underlying22 xe) ?_
  refine JO.py (Py.sub xe ev_const (w_i64 (by omega))) ?_
  refine JO.py (Py.assign xe) ?_
  refine JO.nil (JX.code (JC.ret ?_))
  refine JX.end1 (Or.inl rfl) (()) Tryz.results188 ((xe).trans (by first | exact xval | (dsimp only; exact xval))) xpkE
theorem avail_con (G : Gst) (dd db n fr re hd : Nat) (hn : n ≤ 100000) (h : re ≤ fr ∧ fr < n) : Con Tryz.prog G 160 #[.pointer (some ⟨dd, 0, none⟩)] [DictC dd db n fr re hd] (fun _ : Unit => .int .i64 (n - 1 - (fr - re) : Nat)) (fun _ => [DictC dd db n fr re hd]) := by
  refine Con.intro Tryz.func160 rfl (by kernel_rfl) Tryz.ntmps160 (Nat.le_of_ble_eq_true rfl) ?_
  intro F
  show JC _ _ _ _ _ _ [(0, _)] _ [_, _]
  refine JC.seq (JC.region ?_)
  refine JO.py (Py.assign ev_const) ?_
  refine JO.nil (JX.code (JC.seq ?_))
  refine JC.regionD mixed (by kernel_rfl) ?_
  refine JD.py (Py.move xe) ?_
  refine JD.py (Py.nil xe) ?_
  refine JD.py (Py.fld fld219_2 xe xoff) ?_
  refine JD.py (Py.load scal3 xe xpick xrow) ?_
  refine JD.py (Py.sub xe ev_const (w_i64 (by omega))) ?_
  refine JD.py (Py.move xe) ?_
  refine JD.py (Py.nil xe) ?_
  refine JD.py (Py.fld fld219_1 xe xoff) ?_
  refine JD.py (Py.load scal3 xe xpick xrow) ?_
  refine JD.py (Py.sub xe xe (w_i64 (by omega))) ?_
  refine JD.py (Py.assign xe) ?_
  refine JD.nilN (JX.code (JC.seq (JC.seq (JC.region ?_))))
  refine JO.py (Py.move xe) ?_
  first | refine JO.py (Py.dec (Py.lss xe ev_const) (by omega)) ?_ | refine JO.py (Py.undec (Py.lss xe ev_const) (by omega)) ?_ | refine JO.py (Py.lss xe ev_const) ?_
  refine JO.nil (JX.code ?_)
  first | refine JC.condT xe ?_ | refine JC.condT ((xe).trans (vbool (decide_eq_true (by omega)))) ?_
  refine JC.region ?_
  refine JO.py (Py.move xe) ?_
  refine JO.py (Py.move xe) ?_
  refine JO.py (Py.nil xe) ?_
  refine JO.py (Py.fld fld219_0 xe xoff) ?_
  refine JO.py (Py.load scal22 xe xpick xrow) ?_
  refine JO.py (Py.lenS Tryz.underlying22 xe) ?_
  refine JO.py (Py.add xe xe (w_i64 (by omega))) ?_
  refine JO.py (Py.assign xe) ?_
  refine JO.nil (JX.code (JC.seq (JC.region ?_)))
  refine JO.py (Py.move xe) ?_
  refine JO.py (Py.assign xe) ?_
  refine JO.nil (JX.code (JC.ret ?_))
  refine JX.end1 (Or.inl rfl) (()) Tryz.results160 ((xe).trans (by first | exact xval | (dsimp only; exact xval))) xpkE
theorem availD_con (G : Gst) (dd db n fr re hd : Nat) (hn : n ≤ 100000) (h : re ≤ fr ∧ fr < n) : Con Tryz.prog G 153 #[.pointer (some ⟨dd, 0, none⟩)] [DictC dd db n fr re hd] (fun _ : Unit => .int .i64 (n - 1 - (fr - re) : Nat)) (fun _ => [DictC dd db n fr re hd]) := by
  refine Con.intro Tryz.func153 rfl (by kernel_rfl) Tryz.ntmps153 (Nat.le_of_ble_eq_true rfl) ?_
  intro F
  show JC _ _ _ _ _ _ [(0, _)] _ [_, _]
  refine JC.seq (JC.region ?_)
  refine JO.py (Py.assign ev_const) ?_
  refine JO.nil (JX.code (JC.seq (JC.region ?_)))
  refine JO.py (Py.move xe) ?_
  refine JO.py (Py.nil xe) ?_
  refine JO.py (Py.fld fld223_0 xe xoff) ?_
  refine JO.call (Evs.cons xe Evs.nil) (avail_con G dd db n fr re hd hn h) xpkE ?_
  rintro _
  show JO _ _ _ _ _ _ _ ((6, _) :: _) _ (_ :: _ :: _)
  refine JO.py (Py.assign xe) ?_
  refine JO.nil (JX.code (JC.ret ?_))
  refine JX.end1 (Or.inl rfl) (()) Tryz.results153 ((xe).trans (by first | exact xval | (dsimp only; exact xval))) xpkE
theorem buffered_con (G : Gst) (dd db n fr re hd : Nat) (hn : n ≤ 100000) (h : re ≤ fr ∧ fr < n) : Con Tryz.prog G 172 #[.pointer (some ⟨dd, 0, none⟩)] [DictC dd db n fr re hd] (fun _ : Unit => .int .i64 (fr - re : Nat)) (fun _ => [DictC dd db n fr re hd]) := by
  refine Con.intro Tryz.func172 rfl (by kernel_rfl) Tryz.ntmps172 (Nat.le_of_ble_eq_true rfl) ?_
  intro F
  show JC _ _ _ _ _ _ [(0, _)] _ [_, _]
  refine JC.seq (JC.region ?_)
  refine JO.py (Py.assign ev_const) ?_
  refine JO.nil (JX.code (JC.seq ?_))
  refine JC.regionD mixed (by kernel_rfl) ?_
  refine JD.py (Py.move xe) ?_
  refine JD.py (Py.nil xe) ?_
  refine JD.py (Py.fld fld219_1 xe xoff) ?_
  refine JD.py (Py.load scal3 xe xpick xrow) ?_
  refine JD.py (Py.move xe) ?_
  refine JD.py (Py.nil xe) ?_
  refine JD.py (Py.fld fld219_2 xe xoff) ?_
  refine JD.py (Py.load scal3 xe xpick xrow) ?_
  refine JD.py (Py.sub xe xe (w_i64 (by omega))) ?_
  refine JD.py (Py.assign xe) ?_
  refine JD.nilN (JX.code (JC.seq (JC.seq (JC.region ?_))))
  refine JO.py (Py.move xe) ?_
  first | refine JO.py (Py.dec (Py.lss xe ev_const) (by omega)) ?_ | refine JO.py (Py.undec (Py.lss xe ev_const) (by omega)) ?_ | refine JO.py (Py.lss xe ev_const) ?_
  refine JO.nil (JX.code ?_)
  first | refine JC.condF xe ?_ | refine JC.condF ((xe).trans (vbool (decide_eq_false (by omega)))) ?_
  refine JC.skip (JX.code (JC.seq (JC.region ?_)))
  refine JO.py (Py.move xe) ?_
  refine JO.py (Py.assign xe) ?_
  refine JO.nil (JX.code (JC.ret ?_))
  refine JX.end1 (Or.inl rfl) (()) Tryz.results172 ((xe).trans (by first | exact xval | (dsimp only; exact xval))) xpkE
theorem addIndex_con (G : Gst) (dd db n fr re hd i m : Nat) (hn : n ≤ 100000) (h : i + m < n) : Con Tryz.prog G 159 #[.pointer (some ⟨dd, 0, none⟩), .int .i64 (i : Int), .int .i64 (m : Int)] [DictC dd db n fr re hd] (fun _ : Unit => .int .i64 (i + m : Nat)) (fun _ => [DictC dd db n fr re hd]) := by
  refine Con.intro Tryz.func159 rfl (by kernel_rfl) Tryz.ntmps159 (Nat.le_of_ble_eq_true rfl) ?_
  intro F
  show JC _ _ _ _ _ _ [(0, _), (1, _), (2, _)] _ [_, _]
  refine JC.seq (JC.region ?_)
  refine JO.py (Py.assign ev_const) ?_
  refine JO.nil (JX.code (JC.seq (JC.region ?_)))
  refine JO.py (Py.move xe) ?_
  refine JO.py (Py.move xe) ?_
  refine JO.py (Py.move xe) ?_
  refine JO.py (Py.nil xe) ?_
  refine JO.py (Py.fld fld219_0 xe xoff) ?_
  refine JO.py (Py.load scal22 xe xpick xrow) ?_
  refine JO.py (Py.lenS Tryz.underlying22 xe) ?_
  refine JO.py (Py.sub xe xe (w_i64 (by omega))) ?_
  refine JO.py (Py.add xe xe (w_i64 (by omega))) ?_
  refine JO.py (Py.assign xe) ?_
  refine JO.nil (JX.code (JC.seq (JC.seq (JC.region ?_))))
  refine JO.py (Py.move xe) ?_
  first | refine JO.py (Py.dec (Py.lss xe ev_const) (by omega)) ?_ | refine JO.py (Py.undec (Py.lss xe ev_const) (by omega)) ?_ | refine JO.py (Py.lss xe ev_const) ?_
  refine JO.nil (JX.code ?_)
  first | refine JC.condT xe ?_ | refine JC.condT ((xe).trans (vbool (decide_eq_true (by omega)))) ?_
  refine JC.region ?_
  refine JO.py (Py.move xe) ?_
  refine JO.py (Py.move xe) ?_
  refine JO.py (Py.nil xe) ?_
  refine JO.py (Py.fld fld219_0 xe xoff) ?_
  refine JO.py (Py.load scal22 xe xpick xrow) ?_
  refine JO.py (Py.lenS Tryz.underlying22 xe) ?_
  refine JO.py (Py.add xe xe (w_i64 (by omega))) ?_
  refine JO.py (Py.assign xe) ?_
  refine JO.nil (JX.code (JC.seq (JC.region ?_)))
  refine JO.py (Py.move xe) ?_
  refine JO.py (Py.assign xe) ?_
  refine JO.nil (JX.code (JC.ret ?_))
  refine JX.end1 (Or.inl rfl) (()) Tryz.results159 ((xe).trans (by first | exact xval | (dsimp only; exact xval))) xpkE
theorem dictLen_con (G : Gst) (dd db n fr re hd : Nat) (hn : 1 ≤ n ∧ n ≤ 100000) (h : hd + 1 < n) : Con Tryz.prog G 181 #[.pointer (some ⟨dd, 0, none⟩)] [DictC dd db n fr re hd] (fun _ : Unit => .int .i64 (hd : Nat)) (fun _ => [DictC dd db n fr re hd]) := by
  refine Con.intro Tryz.func181 rfl (by kernel_rfl) Tryz.ntmps181 (Nat.le_of_ble_eq_true rfl) ?_
  intro F
  show JC _ _ _ _ _ _ [(0, _)] _ [_, _]
  refine JC.seq (JC.region ?_)
  refine JO.py (Py.assign ev_const) ?_
  refine JO.nil (JX.code (JC.seq (JC.region ?_)))
  refine JO.py (Py.move xe) ?_
  refine JO.py (Py.nil xe) ?_
  refine JO.py (Py.fld fld223_0 xe xoff) ?_
  refine JO.call (Evs.cons xe Evs.nil) (cap_con G dd db n fr re hd hn) xpkE ?_
  rintro _
  show JO _ _ _ _ _ _ _ ((7, _) :: _) _ (_ :: _ :: _)
  refine JO.py (Py.assign xe) ?_
  refine JO.nil (JX.code (JC.seq (JC.seq (JC.region ?_))))
  refine JO.py (Py.move xe) ?_
  refine JO.py (Py.nil xe) ?_
  refine JO.py (Py.fld fld223_1 xe xoff) ?_
  refine JO.py (Py.load scal2 xe xpick xrow) ?_
  refine JO.py (Py.move xe) ?_
  first | refine JO.py (Py.dec (Py.geq xe xe) (by omega)) ?_ | refine JO.py (Py.undec (Py.geq xe xe) (by omega)) ?_ | refine JO.py (Py.geq xe xe) ?_
  refine JO.nil (JX.code ?_)
  first | refine JC.condF xe ?_ | refine JC.condF ((xe).trans (vbool (decide_eq_false (by omega)))) ?_
  refine JC.skip (JX.code (JC.seq (JC.region ?_)))
  refine JO.py (Py.move xe) ?_
  refine JO.py (Py.nil xe) ?_
  refine JO.py (Py.fld fld223_1 xe xoff) ?_
  refine JO.py (Py.load scal2 xe xpick xrow) ?_
  refine JO.py (Py.assign xe) ?_
  refine JO.nil (JX.code (JC.ret ?_))
  refine JX.end1 (Or.inl rfl) (()) Tryz.results181 ((xe).trans (by first | exact xval | (dsimp only; exact xval))) xpkE
theorem pos_con (G : Gst) (dd db n fr re hd : Nat) : Con Tryz.prog G 95 #[.pointer (some ⟨dd, 0, none⟩)] [DictC dd db n fr re hd] (fun _ : Unit => .int .i64 (hd : Nat)) (fun _ => [DictC dd db n fr re hd]) := by
  refine Con.intro Tryz.func95 rfl (by kernel_rfl) Tryz.ntmps95 (Nat.le_of_ble_eq_true rfl) ?_
  intro F
  show JC _ _ _ _ _ _ [(0, _)] _ [_, _]
  refine JC.seq (JC.region ?_)
  refine JO.py (Py.assign ev_const) ?_
  refine JO.nil (JX.code (JC.seq (JC.region ?_)))
  refine JO.py (Py.move xe) ?_
  refine JO.py (Py.nil xe) ?_
  refine JO.py (Py.fld fld223_1 xe xoff) ?_
  refine JO.py (Py.load scal2 xe xpick xrow) ?_
  refine JO.py (Py.assign xe) ?_
  refine JO.nil (JX.code (JC.ret ?_))
  refine JX.end1 (Or.inl rfl) (()) Tryz.results95 ((xe).trans (by first | exact xval | (dsimp only; exact xval))) xpkE
/-- The byte so far behind. -/
def byteAt (all : List Nat) (fr hd dist : Nat) : Nat := if 0 < dist ∧ dist ≤ hd then all.getD (fr - dist) 0 else 0
set_option maxRecDepth 100000 in
theorem byteAt_con (G : Gst) (dd db n fr re hd dist : Nat) (all : List Nat) (hn : 1 ≤ n ∧ n ≤ 100000) (h : hd + 1 < n) (hf : hd ≤ fr ∧ fr < n) (hd2 : dist ≤ 4294967296) {di : Int} (hdi : di = (dist : Int)) :
    Con Tryz.prog G 175 #[.pointer (some ⟨dd, 0, none⟩), .int .i64 di] [DictC dd db n fr re hd, DictD db all fr n] (fun _ : Unit => .int .u8 (byteAt all fr hd dist : Nat)) (fun _ => [DictC dd db n fr re hd, DictD db all fr n]) := by
  subst hdi
  unfold byteAt
  by_cases h0 : 0 < dist
  · skip
    by_cases h1 : dist ≤ hd
    · skip
      have hg := dch_old (all := all) (fr := fr) (n := n) (j := fr - dist) (by omega) (by omega)
      rw [if_pos ⟨h0, h1⟩]
      refine Con.intro Tryz.func175 rfl (by kernel_rfl) Tryz.ntmps175 (Nat.le_of_ble_eq_true rfl) ?_
      intro F
      show JC _ _ _ _ _ _ [(0, _), (1, _)] _ [_, _, _]
      refine JC.seq (JC.region ?_)
      refine JO.py (Py.assign ev_const) ?_
      refine JO.nil (JX.code (JC.seq (JC.seq (JC.region ?_))))
      refine JO.py (Py.move xe) ?_
      first | refine JO.py (Py.dec (Py.lss ev_const xe) (by omega)) ?_ | refine JO.py (Py.undec (Py.lss ev_const xe) (by omega)) ?_ | refine JO.py (Py.lss ev_const xe) ?_
      refine JO.py (Py.move xe) ?_
      first | (refine JO.go rfl (Lk.ev (v := .bool true) xlk rfl) ?_; (refine JO.py (Py.move xe) ?_)) | refine JO.skipS rfl (Lk.ev (v := .bool false) xlk rfl) ?_
      first | (refine JO.go rfl (Lk.ev (v := .bool true) xlk rfl) ?_; (refine JO.py (Py.move xe) ?_)) | refine JO.skipS rfl (Lk.ev (v := .bool false) xlk rfl) ?_
      refine JO.go rfl (Lk.ev (v := .bool true) xlk rfl) ?_
      refine JO.call (Evs.cons xe Evs.nil) (dictLen_con G dd db n fr re hd hn h) xpkE ?_
      rintro _
      show JO _ _ _ _ _ _ _ ((11, _) :: _) _ (_ :: _ :: _)
      first | (refine JO.go rfl (Lk.ev (v := .bool true) xlk rfl) ?_; (first | refine JO.py (Py.dec (Py.leq xe xe) (by omega)) ?_ | refine JO.py (Py.undec (Py.leq xe xe) (by omega)) ?_ | refine JO.py (Py.leq xe xe) ?_)) | refine JO.skipS rfl (Lk.ev (v := .bool false) xlk rfl) ?_
      first | refine JO.py (Py.pickT xe xe) ?_ | refine JO.py (Py.pickF xe ev_const) ?_
      refine JO.py (Py.not xe (by first | with_reducible exact not_t | with_reducible exact not_f | exact rfl)) ?_
      refine JO.nil (JX.code ?_)
      first | refine JC.condF xe ?_ | refine JC.condF ((xe).trans (vbool (decide_eq_false (by omega)))) ?_
      refine JC.skip (JX.code (JC.seq (JC.region ?_)))
      refine JO.py (Py.move xe) ?_
      refine JO.py (Py.nil xe) ?_
      refine JO.py (Py.fld fld223_0 xe xoff) ?_
      refine JO.py (Py.fld fld219_1 xe xoff) ?_
      refine JO.py (Py.load scal3 xe xpick xrow) ?_
      refine JO.py (Py.move xe) ?_
      refine JO.py (Py.sub xe xe (w_i64 (by omega))) ?_
      refine JO.py (Py.assign xe) ?_
      refine JO.nil (JX.code (JC.seq (JC.seq (JC.region ?_))))
      refine JO.py (Py.move xe) ?_
      first | refine JO.py (Py.dec (Py.lss xe ev_const) (by omega)) ?_ | refine JO.py (Py.undec (Py.lss xe ev_const) (by omega)) ?_ | refine JO.py (Py.lss xe ev_const) ?_
      refine JO.nil (JX.code ?_)
      first | refine JC.condF xe ?_ | refine JC.condF ((xe).trans (vbool (decide_eq_false (by omega)))) ?_
      refine JC.skip (JX.code (JC.seq (JC.region ?_)))
      refine JO.py (Py.move xe) ?_
      refine JO.py (Py.nil xe) ?_
      refine JO.py (Py.fld fld223_0 xe xoff) ?_
      refine JO.py (Py.fld fld219_0 xe xoff) ?_
      refine JO.py (Py.load scal22 xe xpick xrow) ?_
      refine JO.py (Py.move xe) ?_
      refine JO.py (Py.idxS (j := fr - dist) Tryz.underlying22 siz5 xe xe (by omega) (by omega) xmult) ?_
      refine JO.py (Py.load scal5 xe xpick xrow) ?_
      refine JO.py (Py.assign xe) ?_
      refine JO.nil (JX.code (JC.ret ?_))
      refine JX.end1 (Or.inl rfl) (()) Tryz.results175 ((xe).trans (by first | exact xval | (dsimp only; exact xval))) xpkE
    · skip
      rw [if_neg (by omega)]
      refine Con.intro Tryz.func175 rfl (by kernel_rfl) Tryz.ntmps175 (Nat.le_of_ble_eq_true rfl) ?_
      intro F
      show JC _ _ _ _ _ _ [(0, _), (1, _)] _ [_, _, _]
      refine JC.seq (JC.region ?_)
      refine JO.py (Py.assign ev_const) ?_
      refine JO.nil (JX.code (JC.seq (JC.seq (JC.region ?_))))
      refine JO.py (Py.move xe) ?_
      first | refine JO.py (Py.dec (Py.lss ev_const xe) (by omega)) ?_ | refine JO.py (Py.undec (Py.lss ev_const xe) (by omega)) ?_ | refine JO.py (Py.lss ev_const xe) ?_
      refine JO.py (Py.move xe) ?_
      first | (refine JO.go rfl (Lk.ev (v := .bool true) xlk rfl) ?_; (refine JO.py (Py.move xe) ?_)) | refine JO.skipS rfl (Lk.ev (v := .bool false) xlk rfl) ?_
      first | (refine JO.go rfl (Lk.ev (v := .bool true) xlk rfl) ?_; (refine JO.py (Py.move xe) ?_)) | refine JO.skipS rfl (Lk.ev (v := .bool false) xlk rfl) ?_
      refine JO.go rfl (Lk.ev (v := .bool true) xlk rfl) ?_
      refine JO.call (Evs.cons xe Evs.nil) (dictLen_con G dd db n fr re hd hn h) xpkE ?_
      rintro _
      show JO _ _ _ _ _ _ _ ((11, _) :: _) _ (_ :: _ :: _)
      first | (refine JO.go rfl (Lk.ev (v := .bool true) xlk rfl) ?_; (first | refine JO.py (Py.dec (Py.leq xe xe) (by omega)) ?_ | refine JO.py (Py.undec (Py.leq xe xe) (by omega)) ?_ | refine JO.py (Py.leq xe xe) ?_)) | refine JO.skipS rfl (Lk.ev (v := .bool false) xlk rfl) ?_
      first | refine JO.py (Py.pickT xe xe) ?_ | refine JO.py (Py.pickF xe ev_const) ?_
      refine JO.py (Py.not xe (by first | with_reducible exact not_t | with_reducible exact not_f | exact rfl)) ?_
      refine JO.nil (JX.code ?_)
      first | refine JC.condT xe ?_ | refine JC.condT ((xe).trans (vbool (decide_eq_true (by omega)))) ?_
      refine JC.seq (JC.region ?_)
      refine JO.py (Py.assign ev_const) ?_
      refine JO.nil (JX.code (JC.ret (JX.ret ?_)))
      refine JX.end1 (Or.inl rfl) (()) Tryz.results175 ((xe).trans (by first | exact xval | (dsimp only; exact xval))) xpkE
  · skip
    rw [if_neg (by omega)]
    refine Con.intro Tryz.func175 rfl (by kernel_rfl) Tryz.ntmps175 (Nat.le_of_ble_eq_true rfl) ?_
    intro F
    show JC _ _ _ _ _ _ [(0, _), (1, _)] _ [_, _, _]
    refine JC.seq (JC.region ?_)
    refine JO.py (Py.assign ev_const) ?_
    refine JO.nil (JX.code (JC.seq (JC.seq (JC.region ?_))))
    refine JO.py (Py.move xe) ?_
    first | refine JO.py (Py.dec (Py.lss ev_const xe) (by omega)) ?_ | refine JO.py (Py.undec (Py.lss ev_const xe) (by omega)) ?_ | refine JO.py (Py.lss ev_const xe) ?_
    refine JO.py (Py.move xe) ?_
    first | (refine JO.go rfl (Lk.ev (v := .bool true) xlk rfl) ?_; (refine JO.py (Py.move xe) ?_)) | refine JO.skipS rfl (Lk.ev (v := .bool false) xlk rfl) ?_
    first | (refine JO.go rfl (Lk.ev (v := .bool true) xlk rfl) ?_; (refine JO.py (Py.move xe) ?_)) | refine JO.skipS rfl (Lk.ev (v := .bool false) xlk rfl) ?_
    refine JO.skipS rfl (Lk.ev (v := .bool false) xlk rfl) ?_
    first | (refine JO.go rfl (Lk.ev (v := .bool true) xlk rfl) ?_; (first | refine JO.py (Py.dec (Py.leq xe xe) (by omega)) ?_ | refine JO.py (Py.undec (Py.leq xe xe) (by omega)) ?_ | refine JO.py (Py.leq xe xe) ?_)) | refine JO.skipS rfl (Lk.ev (v := .bool false) xlk rfl) ?_
    first | refine JO.py (Py.pickT xe xe) ?_ | refine JO.py (Py.pickF xe ev_const) ?_
    refine JO.py (Py.not xe (by first | with_reducible exact not_t | with_reducible exact not_f | exact rfl)) ?_
    refine JO.nil (JX.code ?_)
    first | refine JC.condT xe ?_ | refine JC.condT ((xe).trans (vbool (decide_eq_true (by omega)))) ?_
    refine JC.seq (JC.region ?_)
    refine JO.py (Py.assign ev_const) ?_
    refine JO.nil (JX.code (JC.ret (JX.ret ?_)))
    refine JX.end1 (Or.inl rfl) (()) Tryz.results175 ((xe).trans (by first | exact xval | (dsimp only; exact xval))) xpkE
attribute [irreducible] dch
end Go.Proofs.YtfpepghmbeoanaaGreatDoor
end

section
open Go Go.RowKit
namespace Go.Proofs.YtfpepghmbeoanaaGreatDoor
open Lz
set_option linter.unusedSimpArgs false
set_option linter.unusedVariables false
set_option maxRecDepth 100000 in
theorem bufByte_con (G : Gst) (dd db n fr re hd x : Nat) (all : List Nat) (hn : n ≤ 100000) (h : re ≤ fr ∧ fr + 1 < n) (hx : x = all.getD fr 0) (hx2 : x < 256) :
    Con Tryz.prog G 183 #[.pointer (some ⟨dd, 0, none⟩), .int .u8 (x : Int)] [DictC dd db n fr re hd, DictD db all fr n] (fun _ : Unit => .nilIface) (fun _ => [DictC dd db n (fr + 1) re hd, DictD db all (fr + 1) n]) := by
  have hsz : fr < (dch all fr n).size := by rw [dch_size]; omega
  have hset : (dch all fr n).setIfInBounds fr (vu8 x) = dch all (fr + 1) n := by rw [hx]; exact dch_set
  refine Con.intro Tryz.func183 rfl (by kernel_rfl) Tryz.ntmps183 (Nat.le_of_ble_eq_true rfl) ?_
  intro F
  show JC _ _ _ _ _ _ [(0, _), (1, _)] _ [_, _, _]
  refine JC.seq (JC.region ?_)
  refine JO.py (Py.assign ev_const) ?_
  refine JO.nil (JX.code (JC.seq (JC.seq (JC.region ?_))))
  refine JO.py (Py.move xe) ?_
  refine JO.call (Evs.cons xe Evs.nil) (avail_con G dd db n fr re hd hn (by omega)) xpkE ?_
  rintro _
  show JO _ _ _ _ _ _ _ ((6, _) :: _) _ (_ :: _ :: _)
  first | refine JO.py (Py.dec (Py.lss xe ev_const) (by omega)) ?_ | refine JO.py (Py.undec (Py.lss xe ev_const) (by omega)) ?_ | refine JO.py (Py.lss xe ev_const) ?_
  refine JO.nil (JX.code ?_)
  first | refine JC.condF xe ?_ | refine JC.condF ((xe).trans (vbool (decide_eq_false (by omega)))) ?_
  refine JC.skip (JX.code (JC.seq ?_))
  refine JC.regionM [(0, true), (1, true), (2, true), (3, true), (4, true), (5, true), (6, true), (7, true), (8, true), (9, true), (10, false)] mixed (by kernel_rfl) ?_
  refine JM.py Ao0 ⟨fun _ => Py.move xe⟩ ?_
  refine JM.py Ao1 ⟨fun _ => Py.nil xe⟩ ?_
  refine JM.py Ao2 ⟨fun _ => Py.fld fld219_0 xe xoff⟩ ?_
  refine JM.ld Ao3 scal22 xe xpick xrow ?_
  refine JM.py Ao4 ⟨fun _ => Py.move xe⟩ ?_
  refine JM.py Ao5 ⟨fun _ => Py.nil xe⟩ ?_
  refine JM.py Ao6 ⟨fun _ => Py.fld fld219_1 xe xoff⟩ ?_
  refine JM.ld Ao7 scal3 xe xpick xrow ?_
  refine JM.py Ao8 ⟨fun _ => Py.move xe⟩ ?_
  refine JM.py Ao9 ⟨fun _ => Py.idxS (j := fr) Tryz.underlying22 siz5 xe xe (by omega) (by omega) xmult⟩ ?_
  refine JM.eff Ao10 ?_
  refine JO.store siz5 xe xe (by first | rfl | assumption) xpick xsize xnorm ?_
  refine JO.nil ?_
  refine JX.mix (Kept.drop (Forced.step (by kernel_rfl)) (Kept.drop (Forced.step (by kernel_rfl)) Kept.nil)) ?_
  refine JM.nil (JX.code (JC.seq (JC.region ?_)))
  refine JO.py (Py.move xe) ?_
  refine JO.py (Py.move xe) ?_
  refine JO.py (Py.move xe) ?_
  refine JO.py (Py.nil xe) ?_
  refine JO.py (Py.fld fld219_1 xe xoff) ?_
  refine JO.py (Py.load scal3 xe xpick xrow) ?_
  refine JO.call (Evs.cons xe (Evs.cons xe (Evs.cons ev_const Evs.nil))) (addIndex_con G dd db n fr re hd fr 1 hn (by omega)) xpkE ?_
  rintro _
  show JO _ _ _ _ _ _ _ ((25, _) :: _) _ (_ :: _ :: _)
  refine JO.py (Py.nil xe) ?_
  refine JO.py (Py.fld fld219_1 xe xoff) ?_
  refine JO.store siz3 xe xe (by first | rfl | assumption) xpick xsize xnorm ?_
  refine JO.nil (JX.code (JC.seq (JC.region ?_)))
  refine JO.py (Py.assign ev_const) ?_
  refine JO.nil (JX.code (JC.ret ?_))
  refine JX.as (A := cel db 5 _) (A' := cel db 5 (dch all (fr + 1) n)) xpick (cel_eq (by exact hset)) ?_
  refine JX.end1 (Or.inl rfl) (()) Tryz.results183 ((xe).trans (by first | exact xval | (dsimp only; exact xval))) xpkE
set_option maxRecDepth 100000 in
theorem dictByte_con (G : Gst) (dd db n fr re hd x : Nat) (all : List Nat) (hn : n ≤ 100000) (h : re ≤ fr ∧ fr + 1 < n) (hh : hd ≤ fr) (hx : x = all.getD fr 0) (hx2 : x < 256) :
    Con Tryz.prog G 171 #[.pointer (some ⟨dd, 0, none⟩), .int .u8 (x : Int)] [DictC dd db n fr re hd, DictD db all fr n] (fun _ : Unit => .nilIface) (fun _ => [DictC dd db n (fr + 1) re (hd + 1), DictD db all (fr + 1) n]) := by
  refine Con.intro Tryz.func171 rfl (by kernel_rfl) Tryz.ntmps171 (Nat.le_of_ble_eq_true rfl) ?_
  intro F
  show JC _ _ _ _ _ _ [(0, _), (1, _)] _ [_, _, _]
  refine JC.seq (JC.region ?_)
  refine JO.py (Py.assign ev_const) ?_
  refine JO.nil (JX.code (JC.seq (JC.seq (JC.region ?_))))
  refine JO.py (Py.move xe) ?_
  refine JO.py (Py.nil xe) ?_
  refine JO.py (Py.fld fld223_0 xe xoff) ?_
  refine JO.py (Py.move xe) ?_
  refine JO.call (Evs.cons xe (Evs.cons xe Evs.nil)) (bufByte_con G dd db n fr re hd x all hn h hx hx2) xpkE ?_
  rintro _
  show JO _ _ _ _ _ _ _ ((10, _) :: _) _ (_ :: _ :: _ :: _)
  refine JO.py (Py.assign xe) ?_
  refine JO.nil (JX.code (JC.seq (JC.region ?_)))
  refine JO.py (Py.move xe) ?_
  first | refine JO.py (Py.neqNil Tryz.underlying70 xe rfl) ?_ | refine JO.py (Py.neqHeld Tryz.underlying70 xe rfl) ?_
  refine JO.nil (JX.code ?_)
  first | refine JC.condF xe ?_ | refine JC.condF ((xe).trans (vbool (decide_eq_false (by omega)))) ?_
  refine JC.skip (JX.code (JC.seq (JC.region ?_)))
  refine JO.py (Py.move xe) ?_
  refine JO.py (Py.nil xe) ?_
  refine JO.py (Py.fld fld223_1 xe xoff) ?_
  refine JO.py (Py.load scal2 xe xpick xrow) ?_
  refine JO.py (Py.add xe ev_const (w_i64 (by omega))) ?_
  refine JO.py (Py.nil xe) ?_
  refine JO.py (Py.fld fld223_1 xe xoff) ?_
  refine JO.store siz2 xe xe (by first | rfl | assumption) xpick xsize xnorm ?_
  refine JO.nil (JX.code (JC.seq (JC.region ?_)))
  refine JO.py (Py.assign ev_const) ?_
  refine JO.nil (JX.code (JC.ret ?_))
  refine JX.end1 (Or.inl rfl) (()) Tryz.results171 ((xe).trans (by first | exact xval | (dsimp only; exact xval))) xpkE
set_option maxRecDepth 100000 in
theorem bufWrite_con (G : Gst) (dd db n fr re hd i m mc : Nat) (all : List Nat) (hn : n ≤ 100000) (h : re ≤ fr ∧ fr + m < n) (hi : i + m ≤ fr) (heq : ∀ j, j < m → all.getD (i + j) 0 = all.getD (fr + j) 0) :
    Con Tryz.prog G 182 #[.pointer (some ⟨dd, 0, none⟩), .slice (some ⟨db, i, none⟩) m mc] [DictC dd db n fr re hd, DictD db all fr n] (fun _ : Unit => .tuple #[.int .i64 (m : Int), .nilIface]) (fun _ => [DictC dd db n (fr + m) re hd, DictD db all (fr + m) n]) := by
  refine Con.intro Tryz.func182 rfl (by kernel_rfl) Tryz.ntmps182 (Nat.le_of_ble_eq_true rfl) ?_
  intro F
  show JC _ _ _ _ _ _ [(0, _), (1, _)] _ [_, _, _]
  refine JC.seq (JC.region ?_)
  refine JO.py (Py.assign ev_const) ?_
  refine JO.py (Py.assign ev_const) ?_
  refine JO.nil (JX.code (JC.seq (JC.region ?_)))
  refine JO.py (Py.move xe) ?_
  refine JO.call (Evs.cons xe Evs.nil) (avail_con G dd db n fr re hd hn (by omega)) xpkE ?_
  rintro _
  show JO _ _ _ _ _ _ _ ((9, _) :: _) _ (_ :: _ :: _)
  refine JO.py (Py.assign xe) ?_
  refine JO.nil (JX.code (JC.seq (JC.region ?_)))
  refine JO.py (Py.move xe) ?_
  refine JO.py (Py.lenS Tryz.underlying22 xe) ?_
  refine JO.py (Py.assign xe) ?_
  refine JO.nil (JX.code (JC.seq (JC.seq (JC.region ?_))))
  refine JO.py (Py.move xe) ?_
  refine JO.py (Py.move xe) ?_
  first | refine JO.py (Py.dec (Py.lss xe xe) (by omega)) ?_ | refine JO.py (Py.undec (Py.lss xe xe) (by omega)) ?_ | refine JO.py (Py.lss xe xe) ?_
  refine JO.nil (JX.code ?_)
  first | refine JC.condF xe ?_ | refine JC.condF ((xe).trans (vbool (decide_eq_false (by omega)))) ?_
  refine JC.skip (JX.code (JC.seq ?_))
  refine JC.regionM [(0, true), (1, true), (2, true), (3, true), (4, true), (5, true), (6, true), (7, true), (8, true), (9, true), (10, false), (11, true)] mixed (by kernel_rfl) ?_
  refine JM.py Ao0 ⟨fun _ => Py.move xe⟩ ?_
  refine JM.py Ao1 ⟨fun _ => Py.nil xe⟩ ?_
  refine JM.py Ao2 ⟨fun _ => Py.fld fld219_0 xe xoff⟩ ?_
  refine JM.ld Ao3 scal22 xe xpick xrow ?_
  refine JM.py Ao4 ⟨fun _ => Py.move xe⟩ ?_
  refine JM.py Ao5 ⟨fun _ => Py.nil xe⟩ ?_
  refine JM.py Ao6 ⟨fun _ => Py.fld fld219_1 xe xoff⟩ ?_
  refine JM.ld Ao7 scal3 xe xpick xrow ?_
  refine JM.py Ao8 ⟨fun _ => Py.slc (l := fr) (h := n) (p := fr) (q := n - fr) (c := n - fr) Tryz.underlying22 siz5 xe (Bd.some xe (by omega)) Bd.none (by omega) (by omega) (by omega) (by omega) (by omega) (by omega)⟩ ?_
  refine JM.py Ao9 ⟨fun _ => Py.move xe⟩ ?_
  refine JM.eff Ao10 ?_
  refine JO.copy (news := piece all fr m) (cs' := dch all (fr + m) n) Tryz.underlying22 info5 xe xe (piece_len all fr m) (by omega) xpick (Reads.cel xpick (fun j v h => by obtain ⟨hj, rfl⟩ := piece_get h; rw [dch_old (by omega) (by omega), heq j hj])) (by rw [dch_size]; omega) (piece_one all fr m) (dch_copy (by omega)) ?_
  refine JO.nil ?_
  refine JX.mix (Kept.drop (Forced.trans (q := 8) (Forced.step (by kernel_rfl)) (Forced.step (by kernel_rfl))) (Kept.drop (Forced.trans (q := 8) (Forced.step (by kernel_rfl)) (Forced.step (by kernel_rfl))) Kept.nil)) ?_
  refine JM.py Ao11 ⟨fun _ => Py.assign xe⟩ ?_
  refine JM.nil (JX.code (JC.seq (JC.seq (JC.region ?_))))
  refine JO.py (Py.move xe) ?_
  refine JO.py (Py.move xe) ?_
  first | refine JO.py (Py.dec (Py.lss xe xe) (by omega)) ?_ | refine JO.py (Py.undec (Py.lss xe xe) (by omega)) ?_ | refine JO.py (Py.lss xe xe) ?_
  refine JO.nil (JX.code ?_)
  first | refine JC.condF xe ?_ | refine JC.condF ((xe).trans (vbool (decide_eq_false (by omega)))) ?_
  refine JC.skip (JX.code (JC.seq (JC.region ?_)))
  refine JO.py (Py.move xe) ?_
  refine JO.py (Py.move xe) ?_
  refine JO.py (Py.move xe) ?_
  refine JO.py (Py.nil xe) ?_
  refine JO.py (Py.fld fld219_1 xe xoff) ?_
  refine JO.py (Py.load scal3 xe xpick xrow) ?_
  refine JO.py (Py.move xe) ?_
  refine JO.call (Evs.cons xe (Evs.cons xe (Evs.cons xe Evs.nil))) (addIndex_con G dd db n fr re hd fr m hn (by omega)) xpkE ?_
  rintro _
  show JO _ _ _ _ _ _ _ ((49, _) :: _) _ (_ :: _ :: _)
  refine JO.py (Py.nil xe) ?_
  refine JO.py (Py.fld fld219_1 xe xoff) ?_
  refine JO.store siz3 xe xe (by first | rfl | assumption) xpick xsize xnorm ?_
  refine JO.nil (JX.code (JC.seq (JC.region ?_)))
  refine JO.py (Py.move xe) ?_
  refine JO.py (Py.move xe) ?_
  refine JO.py (Py.assign xe) ?_
  refine JO.py (Py.assign xe) ?_
  refine JO.nil (JX.code (JC.ret ?_))
  refine JX.end2 (Or.inl rfl) (()) Tryz.results182 (tup2 ((xe).trans (by first | exact xval | (dsimp only; exact xval))) ((xe).trans (by first | exact xval | (dsimp only; exact xval)))) xpkE
set_option maxRecDepth 100000 in
theorem writeMatch_con (G : Gst) (dd db n fr re hd dist len : Nat) (all : List Nat) (hn : 1 ≤ n ∧ n ≤ 100000) (h : re ≤ fr ∧ fr + len < n) (hh : hd ≤ fr ∧ hd + 1 < n) (hd1 : 1 ≤ dist ∧ dist ≤ hd) (hl : 1 ≤ len ∧ len ≤ 273) (heq : ∀ j, j < len → all.getD (fr + j) 0 = all.getD (fr + j - dist) 0) :
    Con Tryz.prog G 170 #[.pointer (some ⟨dd, 0, none⟩), .int .i64 (dist : Int), .int .i64 (len : Int)] [DictC dd db n fr re hd, DictD db all fr n] (fun _ : Unit => .nilIface) (fun _ => [DictC dd db n (fr + len) re (hd + len), DictD db all (fr + len) n]) := by
  refine Con.intro Tryz.func170 rfl (by kernel_rfl) Tryz.ntmps170 (Nat.le_of_ble_eq_true rfl) ?_
  intro F
  show JC _ _ _ _ _ _ [(0, _), (1, _), (2, _)] _ [_, _, _]
  refine JC.seq (JC.region ?_)
  refine JO.py (Py.assign ev_const) ?_
  refine JO.nil (JX.code (JC.seq (JC.seq (JC.region ?_))))
  refine JO.py (Py.move xe) ?_
  first | refine JO.py (Py.dec (Py.lss ev_const xe) (by omega)) ?_ | refine JO.py (Py.undec (Py.lss ev_const xe) (by omega)) ?_ | refine JO.py (Py.lss ev_const xe) ?_
  refine JO.py (Py.move xe) ?_
  first | (refine JO.go rfl (Lk.ev (v := .bool true) xlk rfl) ?_; (refine JO.py (Py.move xe) ?_)) | refine JO.skipS rfl (Lk.ev (v := .bool false) xlk rfl) ?_
  first | (refine JO.go rfl (Lk.ev (v := .bool true) xlk rfl) ?_; (refine JO.py (Py.move xe) ?_)) | refine JO.skipS rfl (Lk.ev (v := .bool false) xlk rfl) ?_
  refine JO.go rfl (Lk.ev (v := .bool true) xlk rfl) ?_
  refine JO.call (Evs.cons xe Evs.nil) (dictLen_con G dd db n fr re hd hn hh.2) xpkE ?_
  rintro _
  show JO _ _ _ _ _ _ _ ((16, _) :: _) _ (_ :: _ :: _)
  first | (refine JO.go rfl (Lk.ev (v := .bool true) xlk rfl) ?_; (first | refine JO.py (Py.dec (Py.leq xe xe) (by omega)) ?_ | refine JO.py (Py.undec (Py.leq xe xe) (by omega)) ?_ | refine JO.py (Py.leq xe xe) ?_)) | refine JO.skipS rfl (Lk.ev (v := .bool false) xlk rfl) ?_
  first | refine JO.py (Py.pickT xe xe) ?_ | refine JO.py (Py.pickF xe ev_const) ?_
  refine JO.py (Py.not xe (by first | with_reducible exact not_t | with_reducible exact not_f | exact rfl)) ?_
  refine JO.nil (JX.code ?_)
  first | refine JC.condF xe ?_ | refine JC.condF ((xe).trans (vbool (decide_eq_false (by omega)))) ?_
  refine JC.skip (JX.code (JC.seq (JC.seq (JC.region ?_))))
  refine JO.py (Py.move xe) ?_
  first | refine JO.py (Py.dec (Py.lss ev_const xe) (by omega)) ?_ | refine JO.py (Py.undec (Py.lss ev_const xe) (by omega)) ?_ | refine JO.py (Py.lss ev_const xe) ?_
  refine JO.py (Py.move xe) ?_
  first | (refine JO.go rfl (Lk.ev (v := .bool true) xlk rfl) ?_; (refine JO.py (Py.move xe) ?_)) | refine JO.skipS rfl (Lk.ev (v := .bool false) xlk rfl) ?_
  first | (refine JO.go rfl (Lk.ev (v := .bool true) xlk rfl) ?_; (first | refine JO.py (Py.dec (Py.leq xe ev_const) (by omega)) ?_ | refine JO.py (Py.undec (Py.leq xe ev_const) (by omega)) ?_ | refine JO.py (Py.leq xe ev_const) ?_)) | refine JO.skipS rfl (Lk.ev (v := .bool false) xlk rfl) ?_
  first | refine JO.py (Py.pickT xe xe) ?_ | refine JO.py (Py.pickF xe ev_const) ?_
  refine JO.py (Py.not xe (by first | with_reducible exact not_t | with_reducible exact not_f | exact rfl)) ?_
  refine JO.nil (JX.code ?_)
  first | refine JC.condF xe ?_ | refine JC.condF ((xe).trans (vbool (decide_eq_false (by omega)))) ?_
  refine JC.skip (JX.code (JC.seq (JC.seq (JC.region ?_))))
  refine JO.py (Py.move xe) ?_
  refine JO.py (Py.move xe) ?_
  refine JO.py (Py.nil xe) ?_
  refine JO.py (Py.fld fld223_0 xe xoff) ?_
  refine JO.call (Evs.cons xe Evs.nil) (avail_con G dd db n fr re hd hn.2 (by omega)) xpkE ?_
  rintro _
  show JO _ _ _ _ _ _ _ ((33, _) :: _) _ (_ :: _ :: _)
  first | refine JO.py (Py.dec (Py.gtr xe xe) (by omega)) ?_ | refine JO.py (Py.undec (Py.gtr xe xe) (by omega)) ?_ | refine JO.py (Py.gtr xe xe) ?_
  refine JO.nil (JX.code ?_)
  first | refine JC.condF xe ?_ | refine JC.condF ((xe).trans (vbool (decide_eq_false (by omega)))) ?_
  refine JC.skip (JX.code (JC.seq (JC.region ?_)))
  refine JO.py (Py.move xe) ?_
  refine JO.py (Py.nil xe) ?_
  refine JO.py (Py.fld fld223_1 xe xoff) ?_
  refine JO.py (Py.load scal2 xe xpick xrow) ?_
  refine JO.py (Py.move xe) ?_
  refine JO.py (Py.add xe xe (w_i64 (by omega))) ?_
  refine JO.py (Py.nil xe) ?_
  refine JO.py (Py.fld fld223_1 xe xoff) ?_
  refine JO.store siz2 xe xe (by first | rfl | assumption) xpick xsize xnorm ?_
  refine JO.nil (JX.code (JC.seq (JC.region ?_)))
  refine JO.py (Py.move xe) ?_
  refine JO.py (Py.nil xe) ?_
  refine JO.py (Py.fld fld223_0 xe xoff) ?_
  refine JO.py (Py.fld fld219_1 xe xoff) ?_
  refine JO.py (Py.load scal3 xe xpick xrow) ?_
  refine JO.py (Py.move xe) ?_
  refine JO.py (Py.sub xe xe (w_i64 (by omega))) ?_
  refine JO.py (Py.assign xe) ?_
  refine JO.nil (JX.code (JC.seq (JC.seq (JC.region ?_))))
  refine JO.py (Py.move xe) ?_
  first | refine JO.py (Py.dec (Py.lss xe ev_const) (by omega)) ?_ | refine JO.py (Py.undec (Py.lss xe ev_const) (by omega)) ?_ | refine JO.py (Py.lss xe ev_const) ?_
  refine JO.nil (JX.code ?_)
  first | refine JC.condF xe ?_ | refine JC.condF ((xe).trans (vbool (decide_eq_false (by omega)))) ?_
  refine JC.skip (JX.code (JC.seq (JC.block ?_)))
  refine JC.loop (ι := Nat × Nat × Nat) (fun x => x.1 ≤ len ∧ dist ≤ x.2.1 ∧ x.2.1 + x.1 = fr + len ∧ (0 < x.1 → x.2.2 + dist = x.2.1)) (fun x => [(0, .pointer (some ⟨dd, 0, none⟩)), (2, .int .i64 x.1), (7, .int .i64 x.2.2)]) (fun x => [DictC dd db n x.2.1 re (hd + len), DictD db all x.2.1 n, F]) (fun x => x.1) (len, fr, fr - dist) ⟨Nat.le_refl _, by (try dsimp only); omega, by (try dsimp only), by (try dsimp only); omega⟩ xag xpkE ?_
  rintro ⟨k, f, i⟩ base' ⟨hk, hf, hkf, hi⟩
  dsimp only at hk hf hkf hi ⊢
  rcases k with _ | k
  · skip
    have hf2 : f = fr + len := by omega
    subst hf2
    refine JC.seq (JC.seq (JC.region ?_))
    refine JO.py (Py.move xe) ?_
    first | refine JO.py (Py.dec (Py.gtr xe ev_const) (by omega)) ?_ | refine JO.py (Py.undec (Py.gtr xe ev_const) (by omega)) ?_ | refine JO.py (Py.gtr xe ev_const) ?_
    refine JO.nil (JX.code ?_)
    first | refine JC.condF xe ?_ | refine JC.condF ((xe).trans (vbool (decide_eq_false (by omega)))) ?_
    refine JC.exit (JX.exit (JX.exit (JX.blockE (JX.code (JC.seq (JC.region ?_))))))
    refine JO.py (Py.assign ev_const) ?_
    refine JO.nil (JX.code (JC.ret ?_))
    refine JX.end1 (Or.inl rfl) (()) Tryz.results170 ((xe).trans (by first | exact xval | (dsimp only; exact xval))) xpkE
  · skip
    have hi := hi (Nat.succ_pos _)
    have hq : ∀ j, j < k + 1 → all.getD (i + j) 0 = all.getD (f + j) 0 := fun j hj => by
      have := heq (f - fr + j) (by omega)
      rw [show fr + (f - fr + j) = f + j by omega] at this
      rw [this, show f + j - dist = i + j by omega]
    refine JC.seq (JC.seq (JC.region ?_))
    refine JO.py (Py.move xe) ?_
    first | refine JO.py (Py.dec (Py.gtr xe ev_const) (by omega)) ?_ | refine JO.py (Py.undec (Py.gtr xe ev_const) (by omega)) ?_ | refine JO.py (Py.gtr xe ev_const) ?_
    refine JO.nil (JX.code ?_)
    first | refine JC.condT xe ?_ | refine JC.condT ((xe).trans (vbool (decide_eq_true (by omega)))) ?_
    refine JC.skip (JX.code (JC.block (JC.seq (JC.region ?_))))
    refine JO.py (Py.assign ev_const) ?_
    refine JO.nil (JX.code (JC.seq (JC.seq (JC.region ?_))))
    refine JO.py (Py.move xe) ?_
    refine JO.py (Py.move xe) ?_
    refine JO.py (Py.nil xe) ?_
    refine JO.py (Py.fld fld223_0 xe xoff) ?_
    refine JO.py (Py.fld fld219_1 xe xoff) ?_
    refine JO.py (Py.load scal3 xe xpick xrow) ?_
    first | refine JO.py (Py.dec (Py.geq xe xe) (by omega)) ?_ | refine JO.py (Py.undec (Py.geq xe xe) (by omega)) ?_ | refine JO.py (Py.geq xe xe) ?_
    refine JO.nil (JX.code ?_)
    first | refine JC.condF xe ?_ | refine JC.condF ((xe).trans (vbool (decide_eq_false (by omega)))) ?_
    refine JC.seq ?_
    refine JC.regionD mixed (by kernel_rfl) ?_
    refine JD.py (Py.move xe) ?_
    refine JD.py (Py.nil xe) ?_
    refine JD.py (Py.fld fld223_0 xe xoff) ?_
    refine JD.py (Py.fld fld219_0 xe xoff) ?_
    refine JD.py (Py.load scal22 xe xpick xrow) ?_
    refine JD.py (Py.move xe) ?_
    refine JD.py (Py.move xe) ?_
    refine JD.py (Py.nil xe) ?_
    refine JD.py (Py.fld fld223_0 xe xoff) ?_
    refine JD.py (Py.fld fld219_1 xe xoff) ?_
    refine JD.py (Py.load scal3 xe xpick xrow) ?_
    refine JD.py (Py.slc (l := i) (h := f) (p := i) (q := dist) (c := n - i) Tryz.underlying22 siz5 xe (Bd.some xe (by omega)) (Bd.some xe (by omega)) (by omega) (by omega) (by omega) (by omega) (by omega) (by omega)) ?_
    refine JD.py (Py.assign xe) ?_
    refine JD.nilN (JX.code (JC.region ?_))
    refine JO.py (Py.move xe) ?_
    refine JO.py (Py.nil xe) ?_
    refine JO.py (Py.fld fld223_0 xe xoff) ?_
    refine JO.py (Py.fld fld219_1 xe xoff) ?_
    refine JO.py (Py.load scal3 xe xpick xrow) ?_
    refine JO.py (Py.assign xe) ?_
    refine JO.nil (JX.code (JC.seq (JC.seq (JC.region ?_))))
    refine JO.py (Py.move xe) ?_
    refine JO.py (Py.lenS Tryz.underlying22 xe) ?_
    refine JO.py (Py.move xe) ?_
    first | refine JO.py (Py.dec (Py.gtr xe xe) (by omega)) ?_ | refine JO.py (Py.undec (Py.gtr xe xe) (by omega)) ?_ | refine JO.py (Py.gtr xe xe) ?_
    refine JO.nil (JX.code ?_)
    by_cases hc : k + 1 < dist
    · skip
      first | refine JC.condT xe ?_ | refine JC.condT ((xe).trans (vbool (decide_eq_true (by omega)))) ?_
      refine JC.region ?_
      refine JO.py (Py.move xe) ?_
      refine JO.py (Py.move xe) ?_
      refine JO.py (Py.slc (l := 0) (h := k + 1) (p := i) (q := k + 1) (c := n - i) Tryz.underlying22 siz5 xe Bd.none (Bd.some xe (by omega)) (by omega) (by omega) (by omega) (by omega) (by omega) (by omega)) ?_
      refine JO.py (Py.assign xe) ?_
      refine JO.nil (JX.code (JC.seq (JC.seq (JC.region ?_))))
      refine JO.py (Py.move xe) ?_
      refine JO.py (Py.nil xe) ?_
      refine JO.py (Py.fld fld223_0 xe xoff) ?_
      refine JO.py (Py.move xe) ?_
      refine JO.call (Evs.cons xe (Evs.cons xe Evs.nil)) (bufWrite_con G dd db n f re (hd + len) i (k + 1) (n - i) all hn.2 (by omega) (by omega) hq) xpkE ?_
      rintro _
      show JO _ _ _ _ _ _ _ ((106, _) :: _) _ (_ :: _ :: _ :: _)
      refine JO.py (Py.move xe) ?_
      refine JO.py (Py.extrI xe xix) ?_
      refine JO.py (Py.extrI xe xix) ?_
      refine JO.py (Py.assign xe) ?_
      refine JO.py (Py.assign xe) ?_
      refine JO.nil (JX.code (JC.seq (JC.region ?_)))
      refine JO.py (Py.move xe) ?_
      first | refine JO.py (Py.neqNil Tryz.underlying70 xe rfl) ?_ | refine JO.py (Py.neqHeld Tryz.underlying70 xe rfl) ?_
      refine JO.nil (JX.code ?_)
      first | refine JC.condF xe ?_ | refine JC.condF ((xe).trans (vbool (decide_eq_false (by omega)))) ?_
      refine JC.skip (JX.code (JC.region ?_))
      refine JO.py (Py.move xe) ?_
      refine JO.py (Py.move xe) ?_
      refine JO.py (Py.lenS Tryz.underlying22 xe) ?_
      refine JO.py (Py.sub xe xe (w_i64 (by omega))) ?_
      refine JO.py (Py.assign xe) ?_
      refine JO.nil (JX.blockN ?_)
      refine JX.loop (0, f + (k + 1), f) ⟨by dsimp only; omega, by dsimp only; omega, by dsimp only; omega, by dsimp only; omega⟩ (by dsimp only; omega) xag xpkE
    · skip
      first | refine JC.condF xe ?_ | refine JC.condF ((xe).trans (vbool (decide_eq_false (by omega)))) ?_
      refine JC.skip (JX.code (JC.seq (JC.seq (JC.region ?_))))
      refine JO.py (Py.move xe) ?_
      refine JO.py (Py.nil xe) ?_
      refine JO.py (Py.fld fld223_0 xe xoff) ?_
      refine JO.py (Py.move xe) ?_
      refine JO.call (Evs.cons xe (Evs.cons xe Evs.nil)) (bufWrite_con G dd db n f re (hd + len) i dist (n - i) all hn.2 (by omega) (by omega) (fun j hj => hq j (by omega))) xpkE ?_
      rintro _
      show JO _ _ _ _ _ _ _ ((106, _) :: _) _ (_ :: _ :: _ :: _)
      refine JO.py (Py.move xe) ?_
      refine JO.py (Py.extrI xe xix) ?_
      refine JO.py (Py.extrI xe xix) ?_
      refine JO.py (Py.assign xe) ?_
      refine JO.py (Py.assign xe) ?_
      refine JO.nil (JX.code (JC.seq (JC.region ?_)))
      refine JO.py (Py.move xe) ?_
      first | refine JO.py (Py.neqNil Tryz.underlying70 xe rfl) ?_ | refine JO.py (Py.neqHeld Tryz.underlying70 xe rfl) ?_
      refine JO.nil (JX.code ?_)
      first | refine JC.condF xe ?_ | refine JC.condF ((xe).trans (vbool (decide_eq_false (by omega)))) ?_
      refine JC.skip (JX.code (JC.region ?_))
      refine JO.py (Py.move xe) ?_
      refine JO.py (Py.move xe) ?_
      refine JO.py (Py.lenS Tryz.underlying22 xe) ?_
      refine JO.py (Py.sub xe xe (w_i64 (by omega))) ?_
      refine JO.py (Py.assign xe) ?_
      refine JO.nil (JX.blockN ?_)
      refine JX.loop (k + 1 - dist, f + dist, f) ⟨by dsimp only; omega, by dsimp only; omega, by dsimp only; omega, by dsimp only; omega⟩ (by dsimp only; omega) xag xpkE
/-- These cells stand in the place of those from there on. -/
def splice (ps : Array Value) (o : Nat) (news : List Value) : Array Value := (ps.toList.take o ++ news ++ ps.toList.drop (o + news.length)).toArray
theorem splice_nil (ps : Array Value) (o : Nat) : splice ps o [] = ps := by
  unfold splice; simp
set_option maxRecDepth 100000 in
theorem peek_con (G : Gst) (dd db n fr re hd pb po pl pc : Nat) (ps : Array Value) (all : List Nat) (hn : n ≤ 100000) (h : re ≤ fr ∧ fr < n) (hp : po + pl ≤ ps.size) (hpl : pl ≤ 1000000) (hpc : pl ≤ pc) :
    Con Tryz.prog G 158 #[.pointer (some ⟨dd, 0, none⟩), .slice (some ⟨pb, po, none⟩) pl pc] [DictC dd db n fr re hd, DictD db all fr n, cel pb 5 ps] (fun _ : Unit => .tuple #[.int .i64 (min pl (fr - re) : Nat), .nilIface])
      (fun _ => [DictC dd db n fr re hd, DictD db all fr n, cel pb 5 (splice ps po (piece all re (min pl (fr - re))))]) := by
  by_cases hc : fr - re < pl
  · skip
    rw [show min pl (fr - re) = fr - re by omega]
    refine Con.intro Tryz.func158 rfl (by kernel_rfl) Tryz.ntmps158 (Nat.le_of_ble_eq_true rfl) ?_
    intro F
    show JC _ _ _ _ _ _ [(0, _), (1, _)] _ [_, _, _, _]
    refine JC.seq (JC.region ?_)
    refine JO.py (Py.assign ev_const) ?_
    refine JO.py (Py.assign ev_const) ?_
    refine JO.nil (JX.code (JC.seq (JC.region ?_)))
    refine JO.py (Py.move xe) ?_
    refine JO.call (Evs.cons xe Evs.nil) (buffered_con G dd db n fr re hd hn h) xpkE ?_
    rintro _
    show JO _ _ _ _ _ _ _ ((9, _) :: _) _ (_ :: _ :: _)
    refine JO.py (Py.assign xe) ?_
    refine JO.nil (JX.code (JC.seq (JC.region ?_)))
    refine JO.py (Py.move xe) ?_
    refine JO.py (Py.lenS Tryz.underlying22 xe) ?_
    refine JO.py (Py.assign xe) ?_
    refine JO.nil (JX.code (JC.seq (JC.seq (JC.region ?_))))
    refine JO.py (Py.move xe) ?_
    refine JO.py (Py.move xe) ?_
    first | refine JO.py (Py.dec (Py.lss xe xe) (by omega)) ?_ | refine JO.py (Py.undec (Py.lss xe xe) (by omega)) ?_ | refine JO.py (Py.lss xe xe) ?_
    refine JO.nil (JX.code ?_)
    first | refine JC.condT xe ?_ | refine JC.condT ((xe).trans (vbool (decide_eq_true (by omega)))) ?_
    refine JC.seq (JC.region ?_)
    refine JO.py (Py.move xe) ?_
    refine JO.py (Py.assign xe) ?_
    refine JO.nil (JX.code (JC.region ?_))
    refine JO.py (Py.move xe) ?_
    refine JO.py (Py.move xe) ?_
    refine JO.py (Py.slc (l := 0) (h := fr - re) (p := po) (q := fr - re) (c := pc) Tryz.underlying22 siz5 xe Bd.none (Bd.some xe (by omega)) (by omega) (by omega) (by omega) (by omega) (by omega) (by omega)) ?_
    refine JO.py (Py.assign xe) ?_
    refine JO.nil (JX.code (JC.seq ?_))
    refine JC.regionM [(0, true), (1, true), (2, true), (3, true), (4, true), (5, true), (6, true), (7, true), (8, true), (9, true), (10, false), (11, true)] mixed (by kernel_rfl) ?_
    refine JM.py Ao0 ⟨fun _ => Py.move xe⟩ ?_
    refine JM.py Ao1 ⟨fun _ => Py.move xe⟩ ?_
    refine JM.py Ao2 ⟨fun _ => Py.nil xe⟩ ?_
    refine JM.py Ao3 ⟨fun _ => Py.fld fld219_0 xe xoff⟩ ?_
    refine JM.ld Ao4 scal22 xe xpick xrow ?_
    refine JM.py Ao5 ⟨fun _ => Py.move xe⟩ ?_
    refine JM.py Ao6 ⟨fun _ => Py.nil xe⟩ ?_
    refine JM.py Ao7 ⟨fun _ => Py.fld fld219_2 xe xoff⟩ ?_
    refine JM.ld Ao8 scal3 xe xpick xrow ?_
    refine JM.py Ao9 ⟨fun _ => Py.slc (l := re) (h := n) (p := re) (q := n - re) (c := n - re) Tryz.underlying22 siz5 xe (Bd.some xe (by omega)) Bd.none (by omega) (by omega) (by omega) (by omega) (by omega) (by omega)⟩ ?_
    refine JM.eff Ao10 ?_
    refine JO.copy (news := piece all re (fr - re)) (cs' := splice ps po (piece all re (fr - re))) Tryz.underlying22 info5 xe xe (piece_len all re (fr - re)) (by omega) xpick (Reads.cel xpick (fun j v h => by obtain ⟨hj, rfl⟩ := piece_get h; rw [dch_old (by omega) (by omega)])) (by omega) (piece_one all re (fr - re)) (by unfold splice; rw [piece_len]) ?_
    refine JO.nil ?_
    refine JX.mix (Kept.drop (Forced.trans (q := 9) (Forced.step (by kernel_rfl)) (Forced.step (by kernel_rfl))) (Kept.drop (Forced.trans (q := 9) (Forced.step (by kernel_rfl)) (Forced.step (by kernel_rfl))) Kept.nil)) ?_
    refine JM.py Ao11 ⟨fun _ => Py.assign xe⟩ ?_
    refine JM.nil (JX.code (JC.seq (JC.seq (JC.region ?_))))
    refine JO.py (Py.move xe) ?_
    refine JO.py (Py.move xe) ?_
    first | refine JO.py (Py.dec (Py.lss xe xe) (by omega)) ?_ | refine JO.py (Py.undec (Py.lss xe xe) (by omega)) ?_ | refine JO.py (Py.lss xe xe) ?_
    refine JO.nil (JX.code ?_)
    first | refine JC.condF xe ?_ | refine JC.condF ((xe).trans (vbool (decide_eq_false (by omega)))) ?_
    refine JC.skip (JX.code (JC.seq (JC.region ?_)))
    refine JO.py (Py.move xe) ?_
    refine JO.py (Py.assign xe) ?_
    refine JO.py (Py.assign ev_const) ?_
    refine JO.nil (JX.code (JC.ret ?_))
    refine JX.end2 (Or.inl rfl) (()) Tryz.results158 (tup2 ((xe).trans (by first | exact xval | (dsimp only; exact xval))) ((xe).trans (by first | exact xval | (dsimp only; exact xval)))) xpkE
  · skip
    rw [show min pl (fr - re) = pl by omega]
    refine Con.intro Tryz.func158 rfl (by kernel_rfl) Tryz.ntmps158 (Nat.le_of_ble_eq_true rfl) ?_
    intro F
    show JC _ _ _ _ _ _ [(0, _), (1, _)] _ [_, _, _, _]
    refine JC.seq (JC.region ?_)
    refine JO.py (Py.assign ev_const) ?_
    refine JO.py (Py.assign ev_const) ?_
    refine JO.nil (JX.code (JC.seq (JC.region ?_)))
    refine JO.py (Py.move xe) ?_
    refine JO.call (Evs.cons xe Evs.nil) (buffered_con G dd db n fr re hd hn h) xpkE ?_
    rintro _
    show JO _ _ _ _ _ _ _ ((9, _) :: _) _ (_ :: _ :: _)
    refine JO.py (Py.assign xe) ?_
    refine JO.nil (JX.code (JC.seq (JC.region ?_)))
    refine JO.py (Py.move xe) ?_
    refine JO.py (Py.lenS Tryz.underlying22 xe) ?_
    refine JO.py (Py.assign xe) ?_
    refine JO.nil (JX.code (JC.seq (JC.seq (JC.region ?_))))
    refine JO.py (Py.move xe) ?_
    refine JO.py (Py.move xe) ?_
    first | refine JO.py (Py.dec (Py.lss xe xe) (by omega)) ?_ | refine JO.py (Py.undec (Py.lss xe xe) (by omega)) ?_ | refine JO.py (Py.lss xe xe) ?_
    refine JO.nil (JX.code ?_)
    first | refine JC.condF xe ?_ | refine JC.condF ((xe).trans (vbool (decide_eq_false (by omega)))) ?_
    refine JC.skip (JX.code (JC.seq ?_))
    refine JC.regionM [(0, true), (1, true), (2, true), (3, true), (4, true), (5, true), (6, true), (7, true), (8, true), (9, true), (10, false), (11, true)] mixed (by kernel_rfl) ?_
    refine JM.py Ao0 ⟨fun _ => Py.move xe⟩ ?_
    refine JM.py Ao1 ⟨fun _ => Py.move xe⟩ ?_
    refine JM.py Ao2 ⟨fun _ => Py.nil xe⟩ ?_
    refine JM.py Ao3 ⟨fun _ => Py.fld fld219_0 xe xoff⟩ ?_
    refine JM.ld Ao4 scal22 xe xpick xrow ?_
    refine JM.py Ao5 ⟨fun _ => Py.move xe⟩ ?_
    refine JM.py Ao6 ⟨fun _ => Py.nil xe⟩ ?_
    refine JM.py Ao7 ⟨fun _ => Py.fld fld219_2 xe xoff⟩ ?_
    refine JM.ld Ao8 scal3 xe xpick xrow ?_
    refine JM.py Ao9 ⟨fun _ => Py.slc (l := re) (h := n) (p := re) (q := n - re) (c := n - re) Tryz.underlying22 siz5 xe (Bd.some xe (by omega)) Bd.none (by omega) (by omega) (by omega) (by omega) (by omega) (by omega)⟩ ?_
    refine JM.eff Ao10 ?_
    refine JO.copy (news := piece all re pl) (cs' := splice ps po (piece all re pl)) Tryz.underlying22 info5 xe xe (piece_len all re pl) (by omega) xpick (Reads.cel xpick (fun j v h => by obtain ⟨hj, rfl⟩ := piece_get h; rw [dch_old (by omega) (by omega)])) (by omega) (piece_one all re pl) (by unfold splice; rw [piece_len]) ?_
    refine JO.nil ?_
    refine JX.mix (Kept.drop (Forced.trans (q := 9) (Forced.step (by kernel_rfl)) (Forced.step (by kernel_rfl))) (Kept.drop (Forced.trans (q := 9) (Forced.step (by kernel_rfl)) (Forced.step (by kernel_rfl))) Kept.nil)) ?_
    refine JM.py Ao11 ⟨fun _ => Py.assign xe⟩ ?_
    refine JM.nil (JX.code (JC.seq (JC.seq (JC.region ?_))))
    refine JO.py (Py.move xe) ?_
    refine JO.py (Py.move xe) ?_
    first | refine JO.py (Py.dec (Py.lss xe xe) (by omega)) ?_ | refine JO.py (Py.undec (Py.lss xe xe) (by omega)) ?_ | refine JO.py (Py.lss xe xe) ?_
    refine JO.nil (JX.code ?_)
    first | refine JC.condF xe ?_ | refine JC.condF ((xe).trans (vbool (decide_eq_false (by omega)))) ?_
    refine JC.skip (JX.code (JC.seq (JC.region ?_)))
    refine JO.py (Py.move xe) ?_
    refine JO.py (Py.assign xe) ?_
    refine JO.py (Py.assign ev_const) ?_
    refine JO.nil (JX.code (JC.ret ?_))
    refine JX.end2 (Or.inl rfl) (()) Tryz.results158 (tup2 ((xe).trans (by first | exact xval | (dsimp only; exact xval))) ((xe).trans (by first | exact xval | (dsimp only; exact xval)))) xpkE
set_option maxRecDepth 100000 in
theorem bufRead_con (G : Gst) (dd db n fr re hd pb po pl pc : Nat) (ps : Array Value) (all : List Nat) (hn : n ≤ 100000) (h : re ≤ fr ∧ fr < n) (hp : po + pl ≤ ps.size) (hpl : pl ≤ 1000000) (hpc : pl ≤ pc) :
    Con Tryz.prog G 152 #[.pointer (some ⟨dd, 0, none⟩), .slice (some ⟨pb, po, none⟩) pl pc] [DictC dd db n fr re hd, DictD db all fr n, cel pb 5 ps] (fun _ : Unit => .tuple #[.int .i64 (min pl (fr - re) : Nat), .nilIface])
      (fun _ => [DictC dd db n fr (re + min pl (fr - re)) hd, DictD db all fr n, cel pb 5 (splice ps po (piece all re (min pl (fr - re))))]) := by
  refine Con.intro Tryz.func152 rfl (by kernel_rfl) Tryz.ntmps152 (Nat.le_of_ble_eq_true rfl) ?_
  intro F
  show JC _ _ _ _ _ _ [(0, _), (1, _)] _ [_, _, _, _]
  refine JC.seq (JC.region ?_)
  refine JO.py (Py.assign ev_const) ?_
  refine JO.py (Py.assign ev_const) ?_
  refine JO.nil (JX.code (JC.seq (JC.region ?_)))
  refine JO.py (Py.move xe) ?_
  refine JO.py (Py.move xe) ?_
  refine JO.call (Evs.cons xe (Evs.cons xe Evs.nil)) (peek_con G dd db n fr re hd pb po pl pc ps all hn h hp hpl hpc) xpkE ?_
  rintro _
  show JO _ _ _ _ _ _ _ ((9, _) :: _) _ (_ :: _ :: _ :: _ :: _)
  refine JO.py (Py.move xe) ?_
  refine JO.py (Py.extrI xe xix) ?_
  refine JO.py (Py.extrI xe xix) ?_
  refine JO.py (Py.assign xe) ?_
  refine JO.py (Py.assign xe) ?_
  refine JO.nil (JX.code (JC.seq (JC.region ?_)))
  refine JO.py (Py.move xe) ?_
  refine JO.py (Py.move xe) ?_
  refine JO.py (Py.move xe) ?_
  refine JO.py (Py.nil xe) ?_
  refine JO.py (Py.fld fld219_2 xe xoff) ?_
  refine JO.py (Py.load scal3 xe xpick xrow) ?_
  refine JO.py (Py.move xe) ?_
  refine JO.call (Evs.cons xe (Evs.cons xe (Evs.cons xe Evs.nil))) (addIndex_con G dd db n fr re hd re (min pl (fr - re)) hn (by omega)) xpkE ?_
  rintro _
  show JO _ _ _ _ _ _ _ ((19, _) :: _) _ (_ :: _ :: _)
  refine JO.py (Py.nil xe) ?_
  refine JO.py (Py.fld fld219_2 xe xoff) ?_
  refine JO.store siz3 xe xe (by first | rfl | assumption) xpick xsize xnorm ?_
  refine JO.nil (JX.code (JC.seq (JC.region ?_)))
  refine JO.py (Py.move xe) ?_
  refine JO.py (Py.move xe) ?_
  refine JO.py (Py.assign xe) ?_
  refine JO.py (Py.assign xe) ?_
  refine JO.nil (JX.code (JC.ret ?_))
  refine JX.end2 (Or.inl rfl) (()) Tryz.results152 (tup2 ((xe).trans (by first | exact xval | (dsimp only; exact xval))) ((xe).trans (by first | exact xval | (dsimp only; exact xval)))) xpkE
theorem dictRead_con (G : Gst) (dd db n fr re hd pb po pl pc : Nat) (ps : Array Value) (all : List Nat) (hn : n ≤ 100000) (h : re ≤ fr ∧ fr < n) (hp : po + pl ≤ ps.size) (hpl : pl ≤ 1000000) (hpc : pl ≤ pc) :
    Con Tryz.prog G 150 #[.pointer (some ⟨dd, 0, none⟩), .slice (some ⟨pb, po, none⟩) pl pc] [DictC dd db n fr re hd, DictD db all fr n, cel pb 5 ps] (fun _ : Unit => .tuple #[.int .i64 (min pl (fr - re) : Nat), .nilIface])
      (fun _ => [DictC dd db n fr (re + min pl (fr - re)) hd, DictD db all fr n, cel pb 5 (splice ps po (piece all re (min pl (fr - re))))]) := by
  refine Con.intro Tryz.func150 rfl (by kernel_rfl) Tryz.ntmps150 (Nat.le_of_ble_eq_true rfl) ?_
  intro F
  show JC _ _ _ _ _ _ [(0, _), (1, _)] _ [_, _, _, _]
  refine JC.seq (JC.region ?_)
  refine JO.py (Py.assign ev_const) ?_
  refine JO.py (Py.assign ev_const) ?_
  refine JO.nil (JX.code (JC.seq (JC.region ?_)))
  refine JO.py (Py.move xe) ?_
  refine JO.py (Py.nil xe) ?_
  refine JO.py (Py.fld fld223_0 xe xoff) ?_
  refine JO.py (Py.move xe) ?_
  refine JO.call (Evs.cons xe (Evs.cons xe Evs.nil)) (bufRead_con G dd db n fr re hd pb po pl pc ps all hn h hp hpl hpc) xpkE ?_
  rintro _
  show JO _ _ _ _ _ _ _ ((10, _) :: _) _ (_ :: _ :: _ :: _ :: _)
  refine JO.py (Py.extrI xe xix) ?_
  refine JO.py (Py.extrI xe xix) ?_
  refine JO.py (Py.assign xe) ?_
  refine JO.py (Py.assign xe) ?_
  refine JO.nil (JX.code (JC.ret ?_))
  refine JX.end2 (Or.inl rfl) (()) Tryz.results150 (tup2 ((xe).trans (by first | exact xval | (dsimp only; exact xval))) ((xe).trans (by first | exact xval | (dsimp only; exact xval)))) xpkE
end Go.Proofs.YtfpepghmbeoanaaGreatDoor
end

section
open Go Go.RowKit
namespace Go.Proofs.YtfpepghmbeoanaaGreatDoor
open Lz
set_option linter.unusedSimpArgs false
set_option linter.unusedVariables false
abbrev DecC (d dd sb g start size : Nat) (eos : Bool) : Asn := cel d 237 #[.pointer (some ⟨dd, 0, none⟩), .pointer (some ⟨sb, 0, none⟩), .pointer (some ⟨g, 0, none⟩), .int .i64 (start : Int), .int .i64 (size : Int), .bool eos, .bool false]
def LzS.regs (S : LzS) : Regs := ⟨S.r0, S.r1, S.r2, S.r3, S.st⟩
theorem stC_r0 {T : Tab} {M : PM} {c : Cfg} {q : Regs} : (stC T M c q)[0]? = some (.int .u32 (q.r0 : Nat)) := stC_rep (i := 0) (by decide)
theorem stC_r1 {T : Tab} {M : PM} {c : Cfg} {q : Regs} : (stC T M c q)[1]? = some (.int .u32 (q.r1 : Nat)) := stC_rep (i := 1) (by decide)
theorem stC_r2 {T : Tab} {M : PM} {c : Cfg} {q : Regs} : (stC T M c q)[2]? = some (.int .u32 (q.r2 : Nat)) := stC_rep (i := 2) (by decide)
theorem stC_r3 {T : Tab} {M : PM} {c : Cfg} {q : Regs} : (stC T M c q)[3]? = some (.int .u32 (q.r3 : Nat)) := stC_rep (i := 3) (by decide)
theorem byteAt_lt {all : List Nat} {fr hd dist : Nat} (h : ∀ x ∈ all, x < 256) : byteAt all fr hd dist < 256 := by
  unfold byteAt
  split
  · rw [List.getD_eq_getElem?_getD]
    cases hx : all[fr - dist]? with
    | none => simp
    | some v => exact h v (List.mem_of_getElem? hx)
  · decide
theorem litO_leD {c : Cfg} (hc : c.Ok) {hd p : Nat} (hp : p < 256) : c.ls p hd < 2 ^ (c.lc + c.lp) := by
  have h1 : hd % 2 ^ c.lp < 2 ^ c.lp := Nat.mod_lt _ (Nat.pow_pos (by decide))
  have hl := hc.l
  have h2 : p / 2 ^ (8 - c.lc) < 2 ^ c.lc := by
    rw [Nat.div_lt_iff_lt_mul (Nat.pow_pos (by decide)), ← Nat.pow_add, show c.lc + (8 - c.lc) = 8 by omega]; exact hp
  have h3 : (hd % 2 ^ c.lp + 1) * 2 ^ c.lc ≤ 2 ^ c.lp * 2 ^ c.lc := Nat.mul_le_mul_right _ h1
  rw [Nat.add_mul, Nat.one_mul] at h3
  unfold Cfg.ls
  rw [Nat.pow_add, Nat.mul_comm (2 ^ c.lc)]
  omega
set_option maxRecDepth 100000 in
set_option maxHeartbeats 2000000 in
theorem decLit_con (G : Gst) (S : ByteSrc G) (T : Tab) (c : Cfg) (hc : c.Ok) (hR : RowsD T c) (M : PM) (hM : PMok M) (q : Regs) (d dd db sb g start size n fr re hd v old : Nat) (all : List Nat) (l : List Ev) (hall : ∀ x ∈ all, x < 256) (hn : 1 ≤ n ∧ n ≤ 100000) (h : hd + 1 < n) (hf : hd ≤ fr ∧ fr < n)
    (hv : v < 256) (hst : q.st < 12) (hr : q.r0 < 4294967296) (hold : 7 ≤ q.st → byteAt all fr hd (q.r0 + 1) = old) :
    Con Tryz.prog G 163 #[.pointer (some ⟨d, 0, none⟩)] [DecC d dd sb g start size false, DictC dd db n fr re hd, DictD db all fr n, cel sb 270 (stC T M c q), ChD T M, DecS g S M (litEv 21 (768 * c.ls (byteAt all fr hd 1) hd) v q.st old ++ l)] (fun _ : Unit => .tuple #[.iface 347 (.agg #[.int .u8 (v : Int)]), .nilIface])
      (fun _ => [DecC d dd sb g start size false, DictC dd db n fr re hd, DictD db all fr n, cel sb 270 (stC T (evsM M (litEv 21 (768 * c.ls (byteAt all fr hd 1) hd) v q.st old)) c q), ChD T (evsM M (litEv 21 (768 * c.ls (byteAt all fr hd 1) hd) v q.st old)), DecS g S (evsM M (litEv 21 (768 * c.ls (byteAt all fr hd 1) hd) v q.st old)) l]) := by
  have h0 := stC_r0 (T := T) (M := M) (c := c) (q := q)
  have h1 := stC_st (T := T) (M := M) (c := c) (q := q)
  have h2 := stC_lit (T := T) (M := M) (c := c) (q := q)
  have b1 := byteAt_lt (fr := fr) (hd := hd) (dist := 1) hall
  have b2 := byteAt_lt (fr := fr) (hd := hd) (dist := q.r0 + 1) hall
  have hlit := hR.lit
  have hll : 768 * 2 ^ (c.lc + c.lp) ≤ 768 * 2 ^ 4 := Nat.mul_le_mul_left _ (Nat.pow_le_pow_right (by decide) hc.l)
  have hls : c.ls (byteAt all fr hd 1) hd < 2 ^ (c.lc + c.lp) := litO_leD hc b1
  have hlit2 : 768 * c.ls (byteAt all fr hd 1) hd + 768 ≤ T.len 21 := by
    rw [hlit.2]
    have := Nat.mul_le_mul_left 768 (Nat.succ_le_of_lt hls)
    rw [Nat.mul_succ] at this
    exact this
  obtain ⟨p1, hp1⟩ : ∃ x, byteAt all fr hd 1 = x := ⟨_, rfl⟩
  obtain ⟨p2, hp2⟩ : ∃ x, byteAt all fr hd (q.r0 + 1) = x := ⟨_, rfl⟩
  rw [hp1] at b1 hls hlit2 ⊢
  rw [hp2] at b2 hold
  obtain ⟨ls, hlsd⟩ : ∃ x, c.ls p1 hd = x := ⟨_, rfl⟩
  rw [hlsd] at hls hlit2 ⊢
  have hlen : T.len 21 ≤ 100000 := by rw [hlit.2]; omega
  clear hll hls
  refine Con.intro Tryz.func163 rfl (by kernel_rfl) Tryz.ntmps163 (Nat.le_of_ble_eq_true rfl) ?_
  intro F
  show JC _ _ _ _ _ _ [(0, _)] _ [_, _, _, _, _, _, _]
  refine JC.seq (JC.region ?_)
  refine JO.py (Py.assign ev_const) ?_
  refine JO.py (Py.assign ev_const) ?_
  refine JO.nil (JX.code (JC.seq ?_))
  refine JC.regionM [(0, true), (1, true), (2, true), (3, true), (4, true), (5, true), (6, true), (7, true), (9, true), (10, true), (11, true), (12, true), (13, true), (14, true), (15, true), (8, false), (16, false), (17, true)] mixed (by kernel_rfl) ?_
  refine JM.py Ao0 ⟨fun _ => Py.move xe⟩ ?_
  refine JM.py Ao1 ⟨fun _ => Py.nil xe⟩ ?_
  refine JM.py Ao2 ⟨fun _ => Py.fld fld237_1 xe xoff⟩ ?_
  refine JM.ld Ao3 scal204 xe xpick xrow ?_
  refine JM.py Ao4 ⟨fun _ => Py.move xe⟩ ?_
  refine JM.py Ao5 ⟨fun _ => Py.nil xe⟩ ?_
  refine JM.py Ao6 ⟨fun _ => Py.fld fld237_0 xe xoff⟩ ?_
  refine JM.ld Ao7 scal187 xe xpick xrow ?_
  refine JM.py Ao9 ⟨fun _ => Py.move xe⟩ ?_
  refine JM.py Ao10 ⟨fun _ => Py.nil xe⟩ ?_
  refine JM.py Ao11 ⟨fun _ => Py.fld fld237_0 xe xoff⟩ ?_
  refine JM.ld Ao12 scal187 xe xpick xrow ?_
  refine JM.py Ao13 ⟨fun _ => Py.nil xe⟩ ?_
  refine JM.py Ao14 ⟨fun _ => Py.fld fld223_1 xe xoff⟩ ?_
  refine JM.ld Ao15 scal2 xe xpick xrow ?_
  refine JM.eff Ao8 ?_
  refine JO.call (Evs.cons xe (Evs.cons ev_const Evs.nil)) (byteAt_con G dd db n fr re hd 1 all hn h hf (by decide) rfl) xpkE ?_
  rintro _
  show JO _ _ _ _ _ _ _ ((15, _) :: _) _ (_ :: _ :: _ :: _)
  rw [hp1]
  refine JO.nil ?_
  refine JX.mix (Kept.keep (fun _ hw => hw.cell xpick xrow) (Kept.keep (fun _ hw => hw.cell xpick xrow) (Kept.drop (Forced.step (by kernel_rfl)) (Kept.keep (fun _ hw => hw.cell xpick xrow) Kept.nil)))) ?_
  refine JM.eff Ao16 ?_
  refine JO.call (Evs.cons xe (Evs.cons xe (Evs.cons xe Evs.nil))) (litState_con G T M c hc q sb p1 hd b1 (by omega)) xpkE ?_
  rintro _
  show JO _ _ _ _ _ _ _ ((23, _) :: _) _ (_ :: _ :: _)
  rw [hlsd]
  refine JO.nil ?_
  refine JX.mix (Kept.drop (Forced.step (by kernel_rfl)) (Kept.drop (Forced.trans (q := 13) (Forced.step (by kernel_rfl)) (Forced.trans (q := 14) (Forced.step (by kernel_rfl)) (Forced.trans (q := 15) (Forced.step (by kernel_rfl)) (Forced.step (by kernel_rfl))))) (Kept.drop (Forced.step (by kernel_rfl)) Kept.nil))) ?_
  refine JM.py Ao17 ⟨fun _ => Py.assign xe⟩ ?_
  refine JM.nil (JX.code (JC.seq ?_))
  refine JC.regionM [(0, true), (1, true), (2, true), (3, true), (4, true), (5, true), (6, true), (7, true), (8, true), (9, true), (10, true), (11, true), (12, true), (13, true), (14, false), (15, true)] mixed (by kernel_rfl) ?_
  refine JM.py Ao0 ⟨fun _ => Py.move xe⟩ ?_
  refine JM.py Ao1 ⟨fun _ => Py.nil xe⟩ ?_
  refine JM.py Ao2 ⟨fun _ => Py.fld fld237_0 xe xoff⟩ ?_
  refine JM.ld Ao3 scal187 xe xpick xrow ?_
  refine JM.py Ao4 ⟨fun _ => Py.move xe⟩ ?_
  refine JM.py Ao5 ⟨fun _ => Py.nil xe⟩ ?_
  refine JM.py Ao6 ⟨fun _ => Py.fld fld237_1 xe xoff⟩ ?_
  refine JM.ld Ao7 scal204 xe xpick xrow ?_
  refine JM.py Ao8 ⟨fun _ => Py.nil xe⟩ ?_
  refine JM.py Ao9 ⟨fun _ => Py.fld fld270_0 xe xoff⟩ ?_
  refine JM.py Ao10 ⟨fun _ => Py.idxA Tryz.underlying249 siz45 xe ev_const (by omega) xidx xmult⟩ ?_
  refine JM.ld Ao11 scal45 xe xpick xrow ?_
  first | refine JM.py Ao12 ⟨fun _ => Py.conv cnv45_3 xe (w_i64 (by omega))⟩ ?_ | refine JM.py Ao12 ⟨fun _ => Py.conv cnv45_3 xe rfl⟩ ?_
  refine JM.py Ao13 ⟨fun _ => Py.add xe ev_const (w_i64 (by omega))⟩ ?_
  refine JM.eff Ao14 ?_
  refine JO.call (Evs.cons xe (Evs.cons xe Evs.nil)) (byteAt_con G dd db n fr re hd (q.r0 + 1) all hn h hf (by omega) (by omega)) xpkE ?_
  rintro _
  show JO _ _ _ _ _ _ _ ((38, _) :: _) _ (_ :: _ :: _ :: _)
  rw [hp2]
  refine JO.nil ?_
  refine JX.mix (Kept.drop (Forced.trans (q := 12) (Forced.step (by kernel_rfl)) (Forced.trans (q := 13) (Forced.step (by kernel_rfl)) (Forced.step (by kernel_rfl)))) (Kept.drop (Forced.trans (q := 8) (Forced.step (by kernel_rfl)) (Forced.trans (q := 9) (Forced.step (by kernel_rfl)) (Forced.trans (q := 10) (Forced.step (by kernel_rfl)) (Forced.trans (q := 11) (Forced.step (by kernel_rfl)) (Forced.trans (q := 12) (Forced.step (by kernel_rfl)) (Forced.trans (q := 13) (Forced.step (by kernel_rfl)) (Forced.step (by kernel_rfl)))))))) (Kept.drop (Forced.step (by kernel_rfl)) Kept.nil))) ?_
  refine JM.py Ao15 ⟨fun _ => Py.assign xe⟩ ?_
  refine JM.nil (JX.code (JC.seq ?_))
  refine JC.regionM [(0, true), (1, true), (2, true), (3, true), (4, true), (5, true), (6, true), (7, true), (8, true), (9, true), (10, true), (11, true), (12, true), (13, true), (14, true), (15, true), (16, true), (17, true), (18, true), (19, false), (20, true), (21, true), (22, true), (23, true), (24, true)] mixed (by kernel_rfl) ?_
  refine JM.py Ao0 ⟨fun _ => Py.move xe⟩ ?_
  refine JM.py Ao1 ⟨fun _ => Py.nil xe⟩ ?_
  refine JM.py Ao2 ⟨fun _ => Py.fld fld237_1 xe xoff⟩ ?_
  refine JM.ld Ao3 scal204 xe xpick xrow ?_
  refine JM.py Ao4 ⟨fun _ => Py.nil xe⟩ ?_
  refine JM.py Ao5 ⟨fun _ => Py.fld fld270_7 xe xoff⟩ ?_
  refine JM.py Ao6 ⟨fun _ => Py.move xe⟩ ?_
  refine JM.py Ao7 ⟨fun _ => Py.nil xe⟩ ?_
  refine JM.py Ao8 ⟨fun _ => Py.fld fld237_2 xe xoff⟩ ?_
  refine JM.ld Ao9 scal235 xe xpick xrow ?_
  refine JM.py Ao10 ⟨fun _ => Py.move xe⟩ ?_
  refine JM.py Ao11 ⟨fun _ => Py.nil xe⟩ ?_
  refine JM.py Ao12 ⟨fun _ => Py.fld fld237_1 xe xoff⟩ ?_
  refine JM.ld Ao13 scal204 xe xpick xrow ?_
  refine JM.py Ao14 ⟨fun _ => Py.nil xe⟩ ?_
  refine JM.py Ao15 ⟨fun _ => Py.fld fld270_11 xe xoff⟩ ?_
  refine JM.ld Ao16 scal45 xe xpick xrow ?_
  refine JM.py Ao17 ⟨fun _ => Py.move xe⟩ ?_
  refine JM.py Ao18 ⟨fun _ => Py.move xe⟩ ?_
  refine JM.eff Ao19 ?_
  refine JO.call (Evs.cons xe (Evs.cons xe (Evs.cons xe (Evs.cons xe (Evs.cons xe Evs.nil))))) (litD_con G g S T hR.ok M hM 21 v q.st old ls p2 l sb 436 270 (0, 0) (stC T M c q) hlit.1 hv hst (fun h7 => ⟨hold h7, by rw [← hold h7]; exact b2⟩) b2 hlit2 hlen h2) xpkE ?_
  rintro _
  show JO _ _ _ _ _ _ _ ((59, _) :: _) _ (_ :: _ :: _ :: _ :: _)
  rw [stC_litE hR hlit.1 M q (768 * ls) v q.st old]
  refine JO.nil ?_
  refine JX.mix (Kept.drop (Forced.step (by kernel_rfl)) (Kept.drop (Forced.trans (q := 14) (Forced.step (by kernel_rfl)) (Forced.trans (q := 15) (Forced.step (by kernel_rfl)) (Forced.trans (q := 16) (Forced.step (by kernel_rfl)) (Forced.step (by kernel_rfl))))) (Kept.drop (Forced.step (by kernel_rfl)) (Kept.drop (Forced.trans (q := 4) (Forced.step (by kernel_rfl)) (Forced.trans (q := 5) (Forced.step (by kernel_rfl)) (Forced.step (by kernel_rfl)))) Kept.nil)))) ?_
  refine JM.py Ao20 ⟨fun _ => Py.move xe⟩ ?_
  refine JM.py Ao21 ⟨fun _ => Py.extrI xe xix⟩ ?_
  refine JM.py Ao22 ⟨fun _ => Py.extrI xe xix⟩ ?_
  refine JM.py Ao23 ⟨fun _ => Py.assign xe⟩ ?_
  refine JM.py Ao24 ⟨fun _ => Py.assign xe⟩ ?_
  refine JM.nil (JX.code (JC.seq (JC.seq (JC.region ?_))))
  refine JO.py (Py.move xe) ?_
  first | refine JO.py (Py.neqNil Tryz.underlying70 xe rfl) ?_ | refine JO.py (Py.neqHeld Tryz.underlying70 xe rfl) ?_
  refine JO.nil (JX.code ?_)
  first | refine JC.condF xe ?_ | refine JC.condF ((xe).trans (vbool (decide_eq_false (by omega)))) ?_
  refine JC.skip (JX.code (JC.seq (JC.region ?_)))
  refine JO.py (Py.move xe) ?_
  refine JO.py (Py.build bld347 (Pts.cons xe Pts.nil) xfl) ?_
  refine JO.py (Py.mki mki347 xe) ?_
  refine JO.py (Py.assign xe) ?_
  refine JO.py (Py.assign ev_const) ?_
  refine JO.nil (JX.code (JC.ret ?_))
  refine JX.end2 (Or.inl rfl) (()) Tryz.results163 (tup2 ((xe).trans (by first | exact xval | (dsimp only; exact xval))) ((xe).trans (by first | exact xval | (dsimp only; exact xval)))) xpkE
end Go.Proofs.YtfpepghmbeoanaaGreatDoor
end

section
open Go Go.RowKit
namespace Go.Proofs.YtfpepghmbeoanaaGreatDoor
open Lz
set_option linter.unusedSimpArgs false
set_option linter.unusedVariables false
section
variable {P : Program} {G : Gst} {ops : Array Oper} {Q : Exit → Act → World → Prop} {n' : Nat} {base : Nat → Value} {L : List (Nat × Value)} {D : List Deferred} {As r r' r'' : List Asn} {g sb : Nat} {S : ByteSrc G} {T : Tab} {M : PM} {l : List Ev} {c : Cfg} {q : Regs}
/-- A short name for the chances. -/
theorem JC.renD {x : Code} (q1 : Pick (DecS g S M l) As r) (q2 : Pick (ChD T M) r r') (q3 : Pick (cel sb 270 (stC T M c q)) r' r'') (k : ∀ M2, M2 = M → JC P G Q x n' base L D (DecS g S M2 l :: ChD T M2 :: cel sb 270 (stC T M2 c q) :: r'')) : JC P G Q x n' base L D As :=
  ⟨fun w hw => (k M rfl).run w (hw.of fun hs => stars_tail (fun _ hh => stars_tail (fun _ h3 => q3.to h3) (q2.to hh)) (q1.to hs))⟩
end
theorem viface {t : TypeId} {a b : Value} (h : a = b) : Value.iface t a = Value.iface t b := h ▸ rfl
theorem vagg {a b : Array Value} (h : a = b) : Value.agg a = Value.agg b := h ▸ rfl
theorem set_ne {a : Array Value} {i k : Nat} {v w : Value} (h : a[i]? = some v) (hk : k ≠ i) : (a.setIfInBounds k w)[i]? = some v := by
  rw [Array.getElem?_setIfInBounds, if_neg hk]; exact h
theorem set_lt {a : Array Value} {i k : Nat} {w : Value} (h : i < a.size) : i < (a.setIfInBounds k w).size := by simpa using h
theorem stC_lt {T : Tab} {M : PM} {c : Cfg} {q : Regs} {i : Nat} (h : i < 608) : i < (stC T M c q).size := by rw [stC_size]; exact h
theorem r_ne3 {a b c d e a' b' c' d' e' : Nat} : (∀ j, j < 4 → j ≠ 3 → (Regs.mk a b c d e).r j = (Regs.mk a b c d' e').r j) := fun j h1 h2 => by
  have : j = 0 ∨ j = 1 ∨ j = 2 := by omega
  rcases this with rfl | rfl | rfl <;> rfl
theorem r_ne2 {a b c d e c' e' : Nat} : (∀ j, j < 4 → j ≠ 2 → (Regs.mk a b c d e).r j = (Regs.mk a b c' d e').r j) := fun j h1 h2 => by
  have : j = 0 ∨ j = 1 ∨ j = 3 := by omega
  rcases this with rfl | rfl | rfl <;> rfl
theorem r_ne1 {a b c d e b' e' : Nat} : (∀ j, j < 4 → j ≠ 1 → (Regs.mk a b c d e).r j = (Regs.mk a b' c d e').r j) := fun j h1 h2 => by
  have : j = 0 ∨ j = 2 ∨ j = 3 := by omega
  rcases this with rfl | rfl | rfl <;> rfl
theorem r_ne0 {a b c d e a' e' : Nat} : (∀ j, j < 4 → j ≠ 0 → (Regs.mk a b c d e).r j = (Regs.mk a' b c d e').r j) := fun j h1 h2 => by
  have : j = 1 ∨ j = 2 ∨ j = 3 := by omega
  rcases this with rfl | rfl | rfl <;> rfl
section
variable {T : Tab} {M : PM} {c : Cfg} {a b e f s : Nat}
theorem stC_set3 (x : Nat) : (stC T M c ⟨a, b, e, f, s⟩).setIfInBounds 3 (.int .u32 (x : Nat)) = stC T M c ⟨a, b, e, x, s⟩ := stC_setR (k := 3) x rfl (by decide) rfl (r_ne3 (a' := 0) (b' := 0) (c' := 0)) rfl
theorem stC_set2 (x : Nat) : (stC T M c ⟨a, b, e, f, s⟩).setIfInBounds 2 (.int .u32 (x : Nat)) = stC T M c ⟨a, b, x, f, s⟩ := stC_setR (k := 2) x rfl (by decide) rfl r_ne2 rfl
theorem stC_set1 (x : Nat) : (stC T M c ⟨a, b, e, f, s⟩).setIfInBounds 1 (.int .u32 (x : Nat)) = stC T M c ⟨a, x, e, f, s⟩ := stC_setR (k := 1) x rfl (by decide) rfl r_ne1 rfl
theorem stC_set0 (x : Nat) : (stC T M c ⟨a, b, e, f, s⟩).setIfInBounds 0 (.int .u32 (x : Nat)) = stC T M c ⟨x, b, e, f, s⟩ := stC_setR (k := 0) x rfl (by decide) rfl r_ne0 rfl
theorem stC_rot (q : Regs) : (((stC T M c q).setIfInBounds 3 (.int .u32 (q.r2 : Nat))).setIfInBounds 2 (.int .u32 (q.r1 : Nat))).setIfInBounds 1 (.int .u32 (q.r0 : Nat)) = stC T M c ⟨q.r0, q.r0, q.r1, q.r2, q.st⟩ := by
  obtain ⟨a, b, e, f, s⟩ := q
  rw [stC_set3, stC_set2, stC_set1]
end
/-- What a match is told by. -/
def matEv (st pos m dist : Nat) : List Ev := .bit 0 (16 * st + pos) true :: .bit 1 st false :: (lenEv matI m pos ++ distEv (6 + min (m - 2) 3) dist)
set_option maxRecDepth 100000 in
set_option maxHeartbeats 4000000 in
theorem readMat_con (G : Gst) (S : ByteSrc G) (T : Tab) (c : Cfg) (hc : c.Ok) (hR : RowsD T c) (M : PM) (hM : PMok M) (q : Regs) (d dd db sb g start size n fr re hd m dist : Nat) (all : List Nat) (l : List Ev) (hh : hd < 100000)
    (hst : q.st < 12) (hm : 2 ≤ m ∧ m ≤ 273) (hd2 : dist < 1048576) :
    Con Tryz.prog G 154 #[.pointer (some ⟨d, 0, none⟩)] [DecC d dd sb g start size false, DictC dd db n fr re hd, DictD db all fr n, cel sb 270 (stC T M c q), ChD T M, DecS g S M (matEv q.st (c.pos hd) m dist ++ l)] (fun _ : Unit => .tuple #[.iface 344 (.agg #[.int .i64 (dist + 1 : Nat), .int .i64 (m : Nat)]), .nilIface])
      (fun _ => [DecC d dd sb g start size false, DictC dd db n fr re hd, DictD db all fr n, cel sb 270 (stC T (evsM M (matEv q.st (c.pos hd) m dist)) c ⟨dist, q.r0, q.r1, q.r2, matSt q.st 7 10⟩), ChD T (evsM M (matEv q.st (c.pos hd) m dist)), DecS g S (evsM M (matEv q.st (c.pos hd) m dist)) l]) := by
  have tf : false.toNat = 0 := rfl
  have tt : true.toNat = 1 := rfl
  have hpb : 2 ^ c.pb ≤ 2 ^ 4 := Nat.pow_le_pow_right (by decide) hc.p
  have hpos : c.pos hd < 16 := by
    have := Nat.mod_lt hd (show 0 < 2 ^ c.pb from Nat.pow_pos (by decide))
    unfold Cfg.pos; omega
  obtain ⟨pos, hposd⟩ : ∃ x, c.pos hd = x := ⟨_, rfl⟩
  rw [hposd] at hpos ⊢
  have p0 : (0, 4, 192) ∈ places := by simp [places]
  have p1 : (1, 388, 12) ∈ places := by simp [places]
  have pm : (matI.c, 437, 2) ∈ places := by simp [places, matI]
  unfold matEv
  simp only [List.cons_append, List.append_assoc, evsM_cons, evsM_append]
  refine Con.intro Tryz.func154 rfl (by kernel_rfl) Tryz.ntmps154 (Nat.le_of_ble_eq_true rfl) ?_
  intro F
  show JC _ _ _ _ _ _ [(0, _)] _ [_, _, _, _, _, _, _]
  refine JC.seq (JC.region ?_)
  refine JO.py (Py.assign ev_const) ?_
  refine JO.py (Py.assign ev_const) ?_
  refine JO.nil (JX.code (JC.seq ?_))
  refine JC.regionM [(0, true), (1, true), (2, true), (3, true), (4, true), (5, true), (6, true), (7, true), (8, true), (9, true), (10, true), (11, false), (12, true), (13, true), (14, true), (15, true), (16, true), (17, true), (18, true)] mixed (by kernel_rfl) ?_
  refine JM.py Ao0 ⟨fun _ => Py.move xe⟩ ?_
  refine JM.py Ao1 ⟨fun _ => Py.nil xe⟩ ?_
  refine JM.py Ao2 ⟨fun _ => Py.fld fld237_1 xe xoff⟩ ?_
  refine JM.ld Ao3 scal204 xe xpick xrow ?_
  refine JM.py Ao4 ⟨fun _ => Py.move xe⟩ ?_
  refine JM.py Ao5 ⟨fun _ => Py.nil xe⟩ ?_
  refine JM.py Ao6 ⟨fun _ => Py.fld fld237_0 xe xoff⟩ ?_
  refine JM.ld Ao7 scal187 xe xpick xrow ?_
  refine JM.py Ao8 ⟨fun _ => Py.nil xe⟩ ?_
  refine JM.py Ao9 ⟨fun _ => Py.fld fld223_1 xe xoff⟩ ?_
  refine JM.ld Ao10 scal2 xe xpick xrow ?_
  refine JM.eff Ao11 ?_
  refine JO.call (Evs.cons xe (Evs.cons xe Evs.nil)) (states_con G T M c hc q hst sb hd (by omega)) xpkE ?_
  rintro _
  show JO _ _ _ _ _ _ _ ((26, _) :: _) _ (_ :: _ :: _)
  rw [hposd]
  refine JO.nil ?_
  refine JX.mix (Kept.drop (Forced.step (by kernel_rfl)) (Kept.drop (Forced.trans (q := 8) (Forced.step (by kernel_rfl)) (Forced.trans (q := 9) (Forced.step (by kernel_rfl)) (Forced.trans (q := 10) (Forced.step (by kernel_rfl)) (Forced.step (by kernel_rfl))))) (Kept.drop (Forced.step (by kernel_rfl)) Kept.nil))) ?_
  refine JM.py Ao12 ⟨fun _ => Py.move xe⟩ ?_
  refine JM.py Ao13 ⟨fun _ => Py.extrI xe xix⟩ ?_
  refine JM.py Ao14 ⟨fun _ => Py.extrI xe xix⟩ ?_
  refine JM.py Ao15 ⟨fun _ => Py.extrI xe xix⟩ ?_
  refine JM.py Ao16 ⟨fun _ => Py.assign xe⟩ ?_
  refine JM.py Ao17 ⟨fun _ => Py.assign xe⟩ ?_
  refine JM.py Ao18 ⟨fun _ => Py.assign xe⟩ ?_
  refine JM.nil (JX.code (JC.seq ?_))
  refine JC.regionM [(0, true), (1, true), (2, true), (3, true), (4, true), (5, true), (6, true), (7, true), (8, true), (9, true), (10, true), (11, true), (12, false), (13, true), (14, true), (15, true), (16, true), (17, true)] mixed (by kernel_rfl) ?_
  refine JM.py Ao0 ⟨fun _ => Py.move xe⟩ ?_
  refine JM.py Ao1 ⟨fun _ => Py.nil xe⟩ ?_
  refine JM.py Ao2 ⟨fun _ => Py.fld fld237_1 xe xoff⟩ ?_
  refine JM.ld Ao3 scal204 xe xpick xrow ?_
  refine JM.py Ao4 ⟨fun _ => Py.move xe⟩ ?_
  refine JM.py Ao5 ⟨fun _ => Py.nil xe⟩ ?_
  refine JM.py Ao6 ⟨fun _ => Py.fld fld270_1 xe xoff⟩ ?_
  refine JM.py Ao7 ⟨fun _ => Py.idxA Tryz.underlying251 siz250 xe xe (by omega) xidx xmult⟩ ?_
  refine JM.py Ao8 ⟨fun _ => Py.move xe⟩ ?_
  refine JM.py Ao9 ⟨fun _ => Py.nil xe⟩ ?_
  refine JM.py Ao10 ⟨fun _ => Py.fld fld237_2 xe xoff⟩ ?_
  refine JM.ld Ao11 scal235 xe xpick xrow ?_
  refine JM.eff Ao12 ?_
  refine JO.call (Evs.cons xe (Evs.cons xe Evs.nil)) (dbitS G g S hM _ c q sb p0 (ix := 16 * q.st + pos) (by omega) (hR.no _ _ _ p0) true) xpkE ?_
  rintro _
  show JO _ _ _ _ _ _ _ ((43, _) :: _) _ (_ :: _ :: _ :: _ :: _)
  have hM1 := evM_ok hM (.bit 0 (16 * q.st + pos) true)
  refine JO.nil ?_
  refine JX.mix (Kept.drop (Forced.step (by kernel_rfl)) (Kept.drop (Forced.trans (q := 5) (Forced.step (by kernel_rfl)) (Forced.trans (q := 6) (Forced.step (by kernel_rfl)) (Forced.trans (q := 7) (Forced.step (by kernel_rfl)) (Forced.step (by kernel_rfl))))) Kept.nil)) ?_
  refine JM.py Ao13 ⟨fun _ => Py.move xe⟩ ?_
  refine JM.py Ao14 ⟨fun _ => Py.extrI xe xix⟩ ?_
  refine JM.py Ao15 ⟨fun _ => Py.extrI xe xix⟩ ?_
  refine JM.py Ao16 ⟨fun _ => Py.assign xe⟩ ?_
  refine JM.py Ao17 ⟨fun _ => Py.assign xe⟩ ?_
  refine JM.nil (JX.code (JC.seq (JC.seq (JC.region ?_))))
  refine JO.py (Py.move xe) ?_
  first | refine JO.py (Py.neqNil Tryz.underlying70 xe rfl) ?_ | refine JO.py (Py.neqHeld Tryz.underlying70 xe rfl) ?_
  refine JO.nil (JX.code ?_)
  first | refine JC.condF xe ?_ | refine JC.condF ((xe).trans (vbool (decide_eq_false (by omega)))) ?_
  refine JC.skip (JX.code (JC.seq (JC.seq (JC.region ?_))))
  refine JO.py (Py.move xe) ?_
  first | refine JO.py (Py.dec (Py.eql xe ev_const) (by omega)) ?_ | refine JO.py (Py.undec (Py.eql xe ev_const) (by omega)) ?_ | refine JO.py (Py.eql xe ev_const) ?_
  refine JO.nil (JX.code ?_)
  first | refine JC.condF xe ?_ | refine JC.condF ((xe).trans (vbool (decide_eq_false (by omega)))) ?_
  refine JC.skip (JX.code (JC.seq ?_))
  refine JC.regionM [(0, true), (1, true), (2, true), (3, true), (4, true), (5, true), (6, true), (7, true), (8, true), (9, true), (10, true), (11, true), (12, false), (13, true), (14, true), (15, true), (16, true), (17, true)] mixed (by kernel_rfl) ?_
  refine JM.py Ao0 ⟨fun _ => Py.move xe⟩ ?_
  refine JM.py Ao1 ⟨fun _ => Py.nil xe⟩ ?_
  refine JM.py Ao2 ⟨fun _ => Py.fld fld237_1 xe xoff⟩ ?_
  refine JM.ld Ao3 scal204 xe xpick xrow ?_
  refine JM.py Ao4 ⟨fun _ => Py.move xe⟩ ?_
  refine JM.py Ao5 ⟨fun _ => Py.nil xe⟩ ?_
  refine JM.py Ao6 ⟨fun _ => Py.fld fld270_3 xe xoff⟩ ?_
  refine JM.py Ao7 ⟨fun _ => Py.idxA Tryz.underlying252 siz250 xe xe (by omega) xidx xmult⟩ ?_
  refine JM.py Ao8 ⟨fun _ => Py.move xe⟩ ?_
  refine JM.py Ao9 ⟨fun _ => Py.nil xe⟩ ?_
  refine JM.py Ao10 ⟨fun _ => Py.fld fld237_2 xe xoff⟩ ?_
  refine JM.ld Ao11 scal235 xe xpick xrow ?_
  refine JM.eff Ao12 ?_
  refine JO.call (Evs.cons xe (Evs.cons xe Evs.nil)) (dbitS G g S hM1 _ c q sb p1 (ix := q.st) (by omega) (hR.no _ _ _ p1) false) xpkE ?_
  rintro _
  show JO _ _ _ _ _ _ _ ((78, _) :: _) _ (_ :: _ :: _ :: _ :: _)
  have hM2 := evM_ok hM1 (.bit 1 q.st false)
  refine JO.nil ?_
  refine JX.mix (Kept.drop (Forced.step (by kernel_rfl)) (Kept.drop (Forced.trans (q := 5) (Forced.step (by kernel_rfl)) (Forced.trans (q := 6) (Forced.step (by kernel_rfl)) (Forced.trans (q := 7) (Forced.step (by kernel_rfl)) (Forced.step (by kernel_rfl))))) Kept.nil)) ?_
  refine JM.py Ao13 ⟨fun _ => Py.move xe⟩ ?_
  refine JM.py Ao14 ⟨fun _ => Py.extrI xe xix⟩ ?_
  refine JM.py Ao15 ⟨fun _ => Py.extrI xe xix⟩ ?_
  refine JM.py Ao16 ⟨fun _ => Py.assign xe⟩ ?_
  refine JM.py Ao17 ⟨fun _ => Py.assign xe⟩ ?_
  refine JM.nil (JX.code (JC.seq (JC.seq (JC.region ?_))))
  refine JO.py (Py.move xe) ?_
  first | refine JO.py (Py.neqNil Tryz.underlying70 xe rfl) ?_ | refine JO.py (Py.neqHeld Tryz.underlying70 xe rfl) ?_
  refine JO.nil (JX.code ?_)
  first | refine JC.condF xe ?_ | refine JC.condF ((xe).trans (vbool (decide_eq_false (by omega)))) ?_
  refine JC.skip (JX.code (JC.seq (JC.seq (JC.region ?_))))
  refine JO.py (Py.move xe) ?_
  first | refine JO.py (Py.dec (Py.eql xe ev_const) (by omega)) ?_ | refine JO.py (Py.undec (Py.eql xe ev_const) (by omega)) ?_ | refine JO.py (Py.eql xe ev_const) ?_
  refine JO.nil (JX.code ?_)
  first | refine JC.condT xe ?_ | refine JC.condT ((xe).trans (vbool (decide_eq_true (by omega)))) ?_
  refine JC.seq ?_
  refine JC.renD xpick xpick xpick ?_
  intro M2 hM2d
  rw [← hM2d] at hM2
  have r0 := stC_r0 (T := T) (M := M2) (c := c) (q := q)
  have r1 := stC_r1 (T := T) (M := M2) (c := c) (q := q)
  have r2 := stC_r2 (T := T) (M := M2) (c := c) (q := q)
  have z3 := stC_lt (T := T) (M := M2) (c := c) (q := q) (i := 3) (by decide)
  have z2 := set_lt (k := 3) (w := .int .u32 (q.r2 : Nat)) (stC_lt (T := T) (M := M2) (c := c) (q := q) (i := 2) (by decide))
  have z1 := set_lt (k := 2) (w := .int .u32 (q.r1 : Nat)) (set_lt (k := 3) (w := .int .u32 (q.r2 : Nat)) (stC_lt (T := T) (M := M2) (c := c) (q := q) (i := 1) (by decide)))
  have s1 := set_ne (k := 3) (w := .int .u32 (q.r2 : Nat)) r1 (by decide)
  have s0 := set_ne (k := 3) (w := .int .u32 (q.r2 : Nat)) r0 (by decide)
  have s00 := set_ne (k := 2) (w := .int .u32 (q.r1 : Nat)) s0 (by decide)
  refine JC.regionM [(0, true), (1, true), (2, true), (3, true), (4, true), (5, true), (6, true), (7, true), (8, true), (9, true), (10, true), (11, true), (12, true), (13, true), (14, true), (15, true), (16, true), (17, true), (18, true), (19, true), (20, true), (21, true), (22, true), (23, true), (24, true), (25, true), (26, true), (27, true), (28, true), (29, true), (30, true), (31, true), (32, true), (33, true), (34, true), (35, true), (36, true), (37, true), (38, true), (40, true), (41, true), (44, true), (45, true), (39, false), (42, true), (43, false), (46, true), (47, false)] mixed (by kernel_rfl) ?_
  refine JM.py Ao0 ⟨fun _ => Py.move xe⟩ ?_
  refine JM.py Ao1 ⟨fun _ => Py.nil xe⟩ ?_
  refine JM.py Ao2 ⟨fun _ => Py.fld fld237_1 xe xoff⟩ ?_
  refine JM.ld Ao3 scal204 xe xpick xrow ?_
  refine JM.py Ao4 ⟨fun _ => Py.move xe⟩ ?_
  refine JM.py Ao5 ⟨fun _ => Py.nil xe⟩ ?_
  refine JM.py Ao6 ⟨fun _ => Py.fld fld237_1 xe xoff⟩ ?_
  refine JM.ld Ao7 scal204 xe xpick xrow ?_
  refine JM.py Ao8 ⟨fun _ => Py.move xe⟩ ?_
  refine JM.py Ao9 ⟨fun _ => Py.nil xe⟩ ?_
  refine JM.py Ao10 ⟨fun _ => Py.fld fld237_1 xe xoff⟩ ?_
  refine JM.ld Ao11 scal204 xe xpick xrow ?_
  refine JM.py Ao12 ⟨fun _ => Py.move xe⟩ ?_
  refine JM.py Ao13 ⟨fun _ => Py.nil xe⟩ ?_
  refine JM.py Ao14 ⟨fun _ => Py.fld fld237_1 xe xoff⟩ ?_
  refine JM.ld Ao15 scal204 xe xpick xrow ?_
  refine JM.py Ao16 ⟨fun _ => Py.nil xe⟩ ?_
  refine JM.py Ao17 ⟨fun _ => Py.fld fld270_0 xe xoff⟩ ?_
  refine JM.py Ao18 ⟨fun _ => Py.idxA Tryz.underlying249 siz45 xe ev_const (by omega) xidx xmult⟩ ?_
  refine JM.ld Ao19 scal45 xe xpick xrow ?_
  refine JM.py Ao20 ⟨fun _ => Py.move xe⟩ ?_
  refine JM.py Ao21 ⟨fun _ => Py.nil xe⟩ ?_
  refine JM.py Ao22 ⟨fun _ => Py.fld fld237_1 xe xoff⟩ ?_
  refine JM.ld Ao23 scal204 xe xpick xrow ?_
  refine JM.py Ao24 ⟨fun _ => Py.nil xe⟩ ?_
  refine JM.py Ao25 ⟨fun _ => Py.fld fld270_0 xe xoff⟩ ?_
  refine JM.py Ao26 ⟨fun _ => Py.idxA Tryz.underlying249 siz45 xe ev_const (by omega) xidx xmult⟩ ?_
  refine JM.ld Ao27 scal45 xe xpick xrow ?_
  refine JM.py Ao28 ⟨fun _ => Py.move xe⟩ ?_
  refine JM.py Ao29 ⟨fun _ => Py.nil xe⟩ ?_
  refine JM.py Ao30 ⟨fun _ => Py.fld fld237_1 xe xoff⟩ ?_
  refine JM.ld Ao31 scal204 xe xpick xrow ?_
  refine JM.py Ao32 ⟨fun _ => Py.nil xe⟩ ?_
  refine JM.py Ao33 ⟨fun _ => Py.fld fld270_0 xe xoff⟩ ?_
  refine JM.py Ao34 ⟨fun _ => Py.idxA Tryz.underlying249 siz45 xe ev_const (by omega) xidx xmult⟩ ?_
  refine JM.ld Ao35 scal45 xe xpick xrow ?_
  refine JM.py Ao36 ⟨fun _ => Py.nil xe⟩ ?_
  refine JM.py Ao37 ⟨fun _ => Py.fld fld270_0 xe xoff⟩ ?_
  refine JM.py Ao38 ⟨fun _ => Py.idxA Tryz.underlying249 siz45 xe ev_const (by omega) xidx xmult⟩ ?_
  refine JM.py Ao40 ⟨fun _ => Py.nil xe⟩ ?_
  refine JM.py Ao41 ⟨fun _ => Py.fld fld270_0 xe xoff⟩ ?_
  refine JM.py Ao44 ⟨fun _ => Py.nil xe⟩ ?_
  refine JM.py Ao45 ⟨fun _ => Py.fld fld270_0 xe xoff⟩ ?_
  refine JM.eff Ao39 ?_
  refine JO.store siz45 xe xe (by first | rfl | assumption) xpick xsize xnorm ?_
  refine JO.nil ?_
  refine JX.mix (Kept.drop (Forced.step (by kernel_rfl)) (Kept.drop (Forced.step (by kernel_rfl)) (Kept.drop (Forced.step (by kernel_rfl)) (Kept.drop (Forced.step (by kernel_rfl)) (Kept.drop (Forced.step (by kernel_rfl)) (Kept.drop (Forced.step (by kernel_rfl)) (Kept.drop (Forced.step (by kernel_rfl)) (Kept.drop (Forced.step (by kernel_rfl)) (Kept.drop (Forced.step (by kernel_rfl)) Kept.nil))))))))) ?_
  refine JM.py Ao42 ⟨fun _ => Py.idxA Tryz.underlying249 siz45 xe ev_const (by omega) xidx xmult⟩ ?_
  refine JM.eff Ao43 ?_
  refine JO.store siz45 xe xe (by first | rfl | assumption) xpick xsize xnorm ?_
  refine JO.nil ?_
  refine JX.mix Kept.nil ?_
  refine JM.py Ao46 ⟨fun _ => Py.idxA Tryz.underlying249 siz45 xe ev_const (by omega) xidx xmult⟩ ?_
  refine JM.eff Ao47 ?_
  refine JO.store siz45 xe xe (by first | rfl | assumption) xpick xsize xnorm ?_
  refine JO.nil ?_
  refine JX.mix Kept.nil ?_
  refine JM.nil (JX.code (JC.seq ?_))
  refine JC.as (A := cel sb 270 _) (A' := cel sb 270 (stC T M2 c ⟨q.r0, q.r0, q.r1, q.r2, q.st⟩)) xpick (cel_eq (by exact stC_rot q)) ?_
  refine JC.region ?_
  refine JO.py (Py.move xe) ?_
  refine JO.py (Py.nil xe) ?_
  refine JO.py (Py.fld fld237_1 xe xoff) ?_
  refine JO.py (Py.load scal204 xe xpick xrow) ?_
  refine JO.call (Evs.cons xe Evs.nil) (updMat_con G T M2 c ⟨q.r0, q.r0, q.r1, q.r2, q.st⟩ sb hst) xpkE ?_
  rintro _
  show JO _ _ _ _ _ _ _ ((135, _) :: _) _ (_ :: _ :: _)
  refine JO.as (A := cel sb 270 _) (A' := cel sb 270 (stC T M2 c ⟨q.r0, q.r0, q.r1, q.r2, matSt q.st 7 10⟩)) xpick (cel_eq (by exact rfl)) ?_
  refine JO.nil (JX.code (JC.seq ?_))
  refine JC.regionM [(0, true), (1, true), (2, true), (3, true), (4, true), (5, true), (6, true), (7, true), (8, true), (9, true), (10, true), (11, false), (12, true), (13, true), (14, true), (15, true), (16, true)] mixed (by kernel_rfl) ?_
  refine JM.py Ao0 ⟨fun _ => Py.move xe⟩ ?_
  refine JM.py Ao1 ⟨fun _ => Py.nil xe⟩ ?_
  refine JM.py Ao2 ⟨fun _ => Py.fld fld237_1 xe xoff⟩ ?_
  refine JM.ld Ao3 scal204 xe xpick xrow ?_
  refine JM.py Ao4 ⟨fun _ => Py.nil xe⟩ ?_
  refine JM.py Ao5 ⟨fun _ => Py.fld fld270_8 xe xoff⟩ ?_
  refine JM.py Ao6 ⟨fun _ => Py.move xe⟩ ?_
  refine JM.py Ao7 ⟨fun _ => Py.nil xe⟩ ?_
  refine JM.py Ao8 ⟨fun _ => Py.fld fld237_2 xe xoff⟩ ?_
  refine JM.ld Ao9 scal235 xe xpick xrow ?_
  refine JM.py Ao10 ⟨fun _ => Py.move xe⟩ ?_
  refine JM.eff Ao11 ?_
  refine JO.call (Evs.cons xe (Evs.cons xe (Evs.cons xe Evs.nil))) (lengthD_con G g S T c hR M2 hM2 matI hR.mat 437 m pos (distEv (6 + min (m - 2) 3) dist ++ l) ⟨q.r0, q.r0, q.r1, q.r2, matSt q.st 7 10⟩ sb pm (fun M j hj => stC_mat hj) hm hpos) xpkE ?_
  rintro _
  show JO _ _ _ _ _ _ _ ((148, _) :: _) _ (_ :: _ :: _ :: _ :: _)
  have hM3 := evsM_ok hM2 (lenEv matI m pos)
  refine JO.nil ?_
  refine JX.mix (Kept.drop (Forced.step (by kernel_rfl)) (Kept.drop (Forced.trans (q := 4) (Forced.step (by kernel_rfl)) (Forced.trans (q := 5) (Forced.step (by kernel_rfl)) (Forced.step (by kernel_rfl)))) Kept.nil)) ?_
  refine JM.py Ao12 ⟨fun _ => Py.move xe⟩ ?_
  refine JM.py Ao13 ⟨fun _ => Py.extrI xe xix⟩ ?_
  refine JM.py Ao14 ⟨fun _ => Py.extrI xe xix⟩ ?_
  refine JM.py Ao15 ⟨fun _ => Py.assign xe⟩ ?_
  refine JM.py Ao16 ⟨fun _ => Py.assign xe⟩ ?_
  refine JM.nil (JX.code (JC.seq (JC.seq (JC.region ?_))))
  refine JO.py (Py.move xe) ?_
  first | refine JO.py (Py.neqNil Tryz.underlying70 xe rfl) ?_ | refine JO.py (Py.neqHeld Tryz.underlying70 xe rfl) ?_
  refine JO.nil (JX.code ?_)
  first | refine JC.condF xe ?_ | refine JC.condF ((xe).trans (vbool (decide_eq_false (by omega)))) ?_
  refine JC.skip (JX.code (JC.seq ?_))
  refine JC.renD xpick xpick xpick ?_
  intro M3 hM3d
  rw [← hM3d] at hM3
  refine JC.regionM [(0, true), (1, true), (2, true), (3, true), (4, true), (5, true), (6, true), (7, true), (8, true), (9, true), (10, true), (11, true), (12, true), (13, true), (14, true), (19, true), (20, true), (15, false), (16, true), (17, true), (18, true), (21, true), (22, false), (23, true)] mixed (by kernel_rfl) ?_
  refine JM.py Ao0 ⟨fun _ => Py.move xe⟩ ?_
  refine JM.py Ao1 ⟨fun _ => Py.nil xe⟩ ?_
  refine JM.py Ao2 ⟨fun _ => Py.fld fld237_1 xe xoff⟩ ?_
  refine JM.ld Ao3 scal204 xe xpick xrow ?_
  refine JM.py Ao4 ⟨fun _ => Py.move xe⟩ ?_
  refine JM.py Ao5 ⟨fun _ => Py.nil xe⟩ ?_
  refine JM.py Ao6 ⟨fun _ => Py.fld fld237_1 xe xoff⟩ ?_
  refine JM.ld Ao7 scal204 xe xpick xrow ?_
  refine JM.py Ao8 ⟨fun _ => Py.nil xe⟩ ?_
  refine JM.py Ao9 ⟨fun _ => Py.fld fld270_10 xe xoff⟩ ?_
  refine JM.py Ao10 ⟨fun _ => Py.move xe⟩ ?_
  refine JM.py Ao11 ⟨fun _ => Py.nil xe⟩ ?_
  refine JM.py Ao12 ⟨fun _ => Py.fld fld237_2 xe xoff⟩ ?_
  refine JM.ld Ao13 scal235 xe xpick xrow ?_
  refine JM.py Ao14 ⟨fun _ => Py.move xe⟩ ?_
  refine JM.py Ao19 ⟨fun _ => Py.nil xe⟩ ?_
  refine JM.py Ao20 ⟨fun _ => Py.fld fld270_0 xe xoff⟩ ?_
  refine JM.eff Ao15 ?_
  refine JO.call (Evs.cons xe (Evs.cons xe (Evs.cons xe Evs.nil))) (distD_con G g S T c hR M3 hM3 m dist l ⟨q.r0, q.r0, q.r1, q.r2, matSt q.st 7 10⟩ sb hm hd2) xpkE ?_
  rintro _
  show JO _ _ _ _ _ _ _ ((170, _) :: _) _ (_ :: _ :: _ :: _ :: _)
  have z0 := stC_lt (T := T) (M := evsM M3 (distEv (6 + min (m - 2) 3) dist)) (c := c) (q := ⟨q.r0, q.r0, q.r1, q.r2, matSt q.st 7 10⟩) (i := 0) (by decide)
  refine JO.nil ?_
  refine JX.mix (Kept.drop (Forced.step (by kernel_rfl)) (Kept.drop (Forced.trans (q := 8) (Forced.step (by kernel_rfl)) (Forced.trans (q := 9) (Forced.step (by kernel_rfl)) (Forced.step (by kernel_rfl)))) (Kept.keep (fun _ hw => hw.cell xpick xrow) Kept.nil))) ?_
  refine JM.py Ao16 ⟨fun _ => Py.move xe⟩ ?_
  refine JM.py Ao17 ⟨fun _ => Py.extrI xe xix⟩ ?_
  refine JM.py Ao18 ⟨fun _ => Py.extrI xe xix⟩ ?_
  refine JM.py Ao21 ⟨fun _ => Py.idxA Tryz.underlying249 siz45 xe ev_const (by omega) xidx xmult⟩ ?_
  refine JM.eff Ao22 ?_
  refine JO.store siz45 xe xe (by first | rfl | assumption) xpick xsize xnorm ?_
  refine JO.nil ?_
  refine JX.mix (Kept.drop (Forced.step (by kernel_rfl)) Kept.nil) ?_
  refine JM.py Ao23 ⟨fun _ => Py.assign xe⟩ ?_
  refine JM.nil (JX.code (JC.seq (JC.seq ?_)))
  refine JC.as (A := cel sb 270 _) (A' := cel sb 270 (stC T (evsM M3 (distEv (6 + min (m - 2) 3) dist)) c ⟨dist, q.r0, q.r1, q.r2, matSt q.st 7 10⟩)) xpick (cel_eq (by exact stC_set0 dist)) ?_
  have f0 : (stC T (evsM M3 (distEv (6 + min (m - 2) 3) dist)) c ⟨dist, q.r0, q.r1, q.r2, matSt q.st 7 10⟩)[0]? = some (.int .u32 (dist : Nat)) := stC_r0
  refine JC.region ?_
  refine JO.py (Py.move xe) ?_
  first | refine JO.py (Py.neqNil Tryz.underlying70 xe rfl) ?_ | refine JO.py (Py.neqHeld Tryz.underlying70 xe rfl) ?_
  refine JO.nil (JX.code ?_)
  first | refine JC.condF xe ?_ | refine JC.condF ((xe).trans (vbool (decide_eq_false (by omega)))) ?_
  refine JC.skip (JX.code (JC.seq (JC.seq (JC.region ?_))))
  refine JO.py (Py.move xe) ?_
  refine JO.py (Py.nil xe) ?_
  refine JO.py (Py.fld fld237_1 xe xoff) ?_
  refine JO.py (Py.load scal204 xe xpick xrow) ?_
  refine JO.py (Py.nil xe) ?_
  refine JO.py (Py.fld fld270_0 xe xoff) ?_
  refine JO.py (Py.idxA Tryz.underlying249 siz45 xe ev_const (by omega) xidx xmult) ?_
  refine JO.py (Py.load scal45 xe xpick xrow) ?_
  first | refine JO.py (Py.dec (Py.eql xe ev_const) (by omega)) ?_ | refine JO.py (Py.undec (Py.eql xe ev_const) (by omega)) ?_ | refine JO.py (Py.eql xe ev_const) ?_
  refine JO.nil (JX.code ?_)
  first | refine JC.condF xe ?_ | refine JC.condF ((xe).trans (vbool (decide_eq_false (by omega)))) ?_
  refine JC.skip (JX.code (JC.seq (JC.region ?_)))
  refine JO.py (Py.move xe) ?_
  first | refine JO.py (Py.conv cnv45_3 xe (w_i64 (by omega))) ?_ | refine JO.py (Py.conv cnv45_3 xe rfl) ?_
  refine JO.py (Py.add xe ev_const (w_i64 (by omega))) ?_
  refine JO.py (Py.move xe) ?_
  refine JO.py (Py.nil xe) ?_
  refine JO.py (Py.fld fld237_1 xe xoff) ?_
  refine JO.py (Py.load scal204 xe xpick xrow) ?_
  refine JO.py (Py.nil xe) ?_
  refine JO.py (Py.fld fld270_0 xe xoff) ?_
  refine JO.py (Py.idxA Tryz.underlying249 siz45 xe ev_const (by omega) xidx xmult) ?_
  refine JO.py (Py.load scal45 xe xpick xrow) ?_
  first | refine JO.py (Py.conv cnv45_2 xe (w_i64 (by omega))) ?_ | refine JO.py (Py.conv cnv45_2 xe rfl) ?_
  refine JO.py (Py.add xe ev_const (w_i64 (by omega))) ?_
  refine JO.py (Py.build bld344 (Pts.cons xe (Pts.cons xe Pts.nil)) xfl) ?_
  refine JO.py (Py.mki mki344 xe) ?_
  refine JO.py (Py.assign xe) ?_
  refine JO.nil (JX.code (JC.seq (JC.region ?_)))
  refine JO.py (Py.move xe) ?_
  refine JO.py (Py.assign xe) ?_
  refine JO.py (Py.assign ev_const) ?_
  refine JO.nil (JX.code (JC.ret (JX.ret ?_)))
  subst hM3d
  subst hM2d
  refine JX.end2 (Or.inl rfl) (()) Tryz.results154 (tup2 ((xe).trans (by exact viface (vagg (varr (vcons (vint (by omega)) (vcons (vint (by omega)) rfl)))))) ((xe).trans (xval))) xpkE
end Go.Proofs.YtfpepghmbeoanaaGreatDoor
end
