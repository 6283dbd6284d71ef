/-
The buffer inside a filter's reader: its parts.
The buffer inside a filter's reader: it grows and is filled.
Bytes copied from a reader into the buffer of a filter's reader.
-/
import Derived.Test.YtfpepghmbeoanaaGreatDoorR04
set_option linter.unusedSimpArgs false
set_option linter.unusedVariables false
section
open Go Go.RowKit
namespace Go.Proofs.YtfpepghmbeoanaaGreatDoor
section
variable {P : Program} {G : Gst} {ops : Array Oper} {Q : Exit → Act → World → Prop} {n : Nat} {base : Nat → Value} {L : List (Nat × Value)} {D : List Deferred} {As r : List Asn}
  {ty : TypeId} {pos : String} {aft : Array Edge} {rest : List Oper}
/-- Nothing is copied. -/
theorem JO.copy0 {dT sT e : TypeId} {d : Nat} {x y : Operand} {a : Option Addr} {dl dc : Nat} (ht : P.underlying dT = some (.slice e)) (hz : (P.info? e).map (·.size) = some 1) (hx : ev n base L x = .slice a dl dc) (hy : ev n base L y = .slice none 0 0)
    (k : JO P G ops Q rest n base ((d, .int .i64 0) :: L) D As) :
    JO P G ops Q (⟨some d, .call { callee := .builtin .copy, args := #[x, y], argTypes := #[dT, sT] }, ty, pos, aft, none⟩ :: rest) n base L D As := by
  refine ⟨fun w hw => ?_⟩
  refine wpList_plain rfl fun K hK => ?_
  show Oper.upon P _ _ _ _ _
  have hr : (Builtin.copy_ #[dT, sT] ty #[.slice a dl dc, .slice none 0 0]).run P w = .ok (.int .i64 0) w := by
    cases hq : P.info? e with
    | none => simp [hq] at hz
    | some i =>
      cases a with
      | none => simp [Builtin.copy_, run_underlying ht, Builtin.lenOf, Builtin.firstCells, sizeOf, typeInfo, hq]; rfl
      | some a => simp [Builtin.copy_, run_underlying ht, Builtin.lenOf, Builtin.firstCells, sizeOf, typeInfo, hq, storeCells]; rfl
  have e : (execOp (frm n base L D).eval ⟨some d, .call { callee := .builtin .copy, args := #[x, y], argTypes := #[dT, sT] }, ty, pos, aft, none⟩).run P w = .ok (.value (.int .i64 0)) w := by
    rw [frm_eval]
    simp [execOp, resolve, Go.invoke, Go.builtin, hx, hy, hr]
  rw [e]
  show K _ _
  rw [show (frm n base L D).put _ _ = _ from frm_put d _]
  exact hK _ _ (k.run w hw)
end
/-- A filter's reader: the buffer inside. -/
abbrev RcA (rb : Nat) (Rv v : Value) (off : Nat) (lr : Int) (n : Nat) (cv : Value) : Asn := cel rb 178 #[Rv, v, .int .i64 (off : Int), .int .i8 lr, .int .i64 (n : Int), cv]
theorem fLen_con (G : Gst) (rb : Nat) (Rv cv : Value) (a : Option Addr) (l c off n : Nat) (lr : Int) (h : off ≤ l) (hl : l ≤ 1000000) : Con Tryz.prog G 75 #[.pointer (some ⟨rb, 1, none⟩)] [RcA rb Rv (.slice a l c) off lr n cv] (fun _ : Unit => .int .i64 ((l - off : Nat) : Int)) (fun _ => [RcA rb Rv (.slice a l c) off lr n cv]) := by
  refine Con.intro Tryz.func75 rfl (by kernel_rfl) Tryz.ntmps75 (Nat.le_of_ble_eq_true rfl) ?_
  intro F
  show JC _ _ _ _ _ _ [(0, _)] _ [_, _]
  refine sR ?_
  refine oC ?_
  refine nC (JC.seq ?_)
  refine JC.regionD mixed (by kernel_rfl) ?_
  refine JD.py (Py.move xe) ?_
  first | refine JD.py (Py.nil xe) ?_ | refine JD.py (Py.nilI xe) ?_
  refine JD.py (Py.fld fld131_0 xe xoff) ?_
  refine JD.py (Py.load scal22 xe xpick xrow) ?_
  refine JD.py (Py.lenS Tryz.underlying22 xe) ?_
  refine JD.py (Py.move xe) ?_
  first | refine JD.py (Py.nil xe) ?_ | refine JD.py (Py.nilI xe) ?_
  refine JD.py (Py.fld fld131_1 xe xoff) ?_
  refine JD.py (Py.load scal3 xe xpick xrow) ?_
  refine JD.py (Py.sub xe xe wI) ?_
  refine JD.py (Py.assign xe) ?_
  refine JD.nilN (JX.code (JC.ret ?_))
  refine JX.end1 (Or.inl rfl) (()) Tryz.results75 ((xe).trans (by first | exact xval | (dsimp only; exact xval))) xpkE
theorem fEmpty_con (G : Gst) (rb : Nat) (Rv cv : Value) (a : Option Addr) (l c off n : Nat) (lr : Int) (h : off < l) : Con Tryz.prog G 146 #[.pointer (some ⟨rb, 1, none⟩)] [RcA rb Rv (.slice a l c) off lr n cv] (fun _ : Unit => .bool false) (fun _ => [RcA rb Rv (.slice a l c) off lr n cv]) := by
  refine Con.intro Tryz.func146 rfl (by kernel_rfl) Tryz.ntmps146 (Nat.le_of_ble_eq_true rfl) ?_
  intro F
  show JC _ _ _ _ _ _ [(0, _)] _ [_, _]
  refine sR ?_
  refine oC ?_
  refine nC (JC.seq ?_)
  refine JC.regionD mixed (by kernel_rfl) ?_
  refine JD.py (Py.move xe) ?_
  first | refine JD.py (Py.nil xe) ?_ | refine JD.py (Py.nilI xe) ?_
  refine JD.py (Py.fld fld131_0 xe xoff) ?_
  refine JD.py (Py.load scal22 xe xpick xrow) ?_
  refine JD.py (Py.lenS Tryz.underlying22 xe) ?_
  refine JD.py (Py.move xe) ?_
  first | refine JD.py (Py.nil xe) ?_ | refine JD.py (Py.nilI xe) ?_
  refine JD.py (Py.fld fld131_1 xe xoff) ?_
  refine JD.py (Py.load scal3 xe xpick xrow) ?_
  first | refine JD.py (Py.dec (Py.leq xe xe) (by omega)) ?_ | refine JD.py (Py.undec (Py.leq xe xe) (by omega)) ?_ | refine JD.py (Py.leq xe xe) ?_
  refine JD.py (Py.assign xe) ?_
  refine JD.nilN (JX.code (JC.ret ?_))
  refine JX.end1 (Or.inl rfl) (()) Tryz.results146 ((xe).trans (by first | exact xval | (dsimp only; exact xval))) xpkE
theorem fReset_con (G : Gst) (rb : Nat) (Rv cv : Value) (b l c off n : Nat) (lr : Int) (hc : l ≤ c) (hl : 0 < c) : Con Tryz.prog G 76 #[.pointer (some ⟨rb, 1, none⟩)] [RcA rb Rv (.slice (some ⟨b, 0, none⟩) l c) off lr n cv] (fun _ : Unit => .tuple #[]) (fun _ => [RcA rb Rv (.slice (some ⟨b, 0, none⟩) 0 c) 0 0 n cv]) := by
  refine Con.intro Tryz.func76 rfl (by kernel_rfl) Tryz.ntmps76 (Nat.le_of_ble_eq_true rfl) ?_
  intro F
  show JC _ _ _ _ _ _ [(0, _)] _ [_, _]
  refine sR ?_
  refine oM ?_
  refine oM ?_
  first | refine JO.py (Py.nil xe) ?_ | refine JO.py (Py.nilI xe) ?_
  refine JO.py (Py.fld fld131_0 xe xoff) ?_
  refine JO.py (Py.load scal22 xe xpick xrow) ?_
  refine JO.py (Py.slc (l := 0) (h := 0) (p := 0) (q := 0) (c := c) Tryz.underlying22 siz5 xe Bd.none (Bd.some ev_const (by omega)) (by omega) (by omega) (by omega) (by omega) (by omega) (by omega)) ?_
  first | refine JO.py (Py.nil xe) ?_ | refine JO.py (Py.nilI xe) ?_
  refine JO.py (Py.fld fld131_0 xe xoff) ?_
  refine JO.store siz22 xe xe (by first | rfl | assumption) xpick xsize xnorm ?_
  refine nC (sR ?_)
  refine oM ?_
  first | refine JO.py (Py.nil xe) ?_ | refine JO.py (Py.nilI xe) ?_
  refine JO.py (Py.fld fld131_1 xe xoff) ?_
  refine JO.store siz3 xe ev_const (by first | rfl | assumption) xpick xsize xnorm ?_
  refine nC (JC.region ?_)
  refine oM ?_
  first | refine JO.py (Py.nil xe) ?_ | refine JO.py (Py.nilI xe) ?_
  refine JO.py (Py.fld fld131_2 xe xoff) ?_
  refine JO.store siz129 xe ev_const (by first | rfl | assumption) xpick xsize xnorm ?_
  refine JO.nil ?_
  refine JX.end0 (Or.inr rfl) (()) Tryz.results76 rfl xpkE
theorem fBytes_con (G : Gst) (rb : Nat) (Rv cv : Value) (b l c off n : Nat) (lr : Int) (h : off < l) (hc : l ≤ c) : Con Tryz.prog G 228 #[.pointer (some ⟨rb, 1, none⟩)] [RcA rb Rv (.slice (some ⟨b, 0, none⟩) l c) off lr n cv] (fun _ : Unit => .slice (some ⟨b, off, none⟩) (l - off) (c - off)) (fun _ => [RcA rb Rv (.slice (some ⟨b, 0, none⟩) l c) off lr n cv]) := by
  refine Con.intro Tryz.func228 rfl (by kernel_rfl) Tryz.ntmps228 (Nat.le_of_ble_eq_true rfl) ?_
  intro F
  show JC _ _ _ _ _ _ [(0, _)] _ [_, _]
  refine sR ?_
  refine oC ?_
  refine nC (JC.seq ?_)
  refine JC.regionD mixed (by kernel_rfl) ?_
  refine JD.py (Py.move xe) ?_
  first | refine JD.py (Py.nil xe) ?_ | refine JD.py (Py.nilI xe) ?_
  refine JD.py (Py.fld fld131_0 xe xoff) ?_
  refine JD.py (Py.load scal22 xe xpick xrow) ?_
  refine JD.py (Py.move xe) ?_
  first | refine JD.py (Py.nil xe) ?_ | refine JD.py (Py.nilI xe) ?_
  refine JD.py (Py.fld fld131_1 xe xoff) ?_
  refine JD.py (Py.load scal3 xe xpick xrow) ?_
  refine JD.py (Py.slc (l := off) (h := l) (p := off) (q := l - off) (c := c - off) Tryz.underlying22 siz5 xe (Bd.some xe (by omega)) Bd.none (by omega) (by omega) (by omega) (by omega) (by omega) (by omega)) ?_
  refine JD.py (Py.assign xe) ?_
  refine JD.nilN (JX.code (JC.ret ?_))
  refine JX.end1 (Or.inl rfl) (()) Tryz.results228 ((xe).trans (by first | exact xval | (dsimp only; exact xval))) xpkE
theorem fTryT_con (G : Gst) (rb : Nat) (Rv cv : Value) (b l c off n : Nat) (lr : Int) (h : l + 512 ≤ c) (hc : c < 9223372036854775808) : Con Tryz.prog G 68 #[.pointer (some ⟨rb, 1, none⟩), .int .i64 512] [RcA rb Rv (.slice (some ⟨b, 0, none⟩) l c) off lr n cv] (fun _ : Unit => .tuple #[.int .i64 (l : Int), .bool true]) (fun _ => [RcA rb Rv (.slice (some ⟨b, 0, none⟩) (l + 512) c) off lr n cv]) := by
  refine Con.intro Tryz.func68 rfl (by kernel_rfl) Tryz.ntmps68 (Nat.le_of_ble_eq_true rfl) ?_
  intro F
  show JC _ _ _ _ _ _ [(0, _), (1, _)] _ [_, _]
  refine sR ?_
  refine oC ?_
  refine oC ?_
  refine nC (JC.seq (sR ?_))
  refine oM ?_
  first | refine JO.py (Py.nil xe) ?_ | refine JO.py (Py.nilI xe) ?_
  refine JO.py (Py.fld fld131_0 xe xoff) ?_
  refine JO.py (Py.load scal22 xe xpick xrow) ?_
  refine JO.py (Py.lenS Tryz.underlying22 xe) ?_
  refine oA ?_
  refine nC (sR ?_)
  refine oM ?_
  refine oM ?_
  first | refine JO.py (Py.nil xe) ?_ | refine JO.py (Py.nilI xe) ?_
  refine JO.py (Py.fld fld131_0 xe xoff) ?_
  refine JO.py (Py.load scal22 xe xpick xrow) ?_
  refine JO.py (Py.capS Tryz.underlying22 xe) ?_
  refine oM ?_
  refine JO.py (Py.sub xe xe wI) ?_
  first | refine oD (Py.leq xe xe) ?_ | refine oU (Py.leq xe xe) ?_ | refine JO.py (Py.leq xe xe) ?_
  refine nC ?_
  refine cT ?_
  refine sR ?_
  refine oM ?_
  refine oM ?_
  first | refine JO.py (Py.nil xe) ?_ | refine JO.py (Py.nilI xe) ?_
  refine JO.py (Py.fld fld131_0 xe xoff) ?_
  refine JO.py (Py.load scal22 xe xpick xrow) ?_
  refine oM ?_
  refine oM ?_
  refine JO.py (Py.add xe xe wI) ?_
  refine JO.py (Py.slc (l := 0) (h := l + 512) (p := 0) (q := l + 512) (c := c) Tryz.underlying22 siz5 xe Bd.none (Bd.some xe (by omega)) (by omega) (by omega) (by omega) (by omega) (by omega) (by omega)) ?_
  first | refine JO.py (Py.nil xe) ?_ | refine JO.py (Py.nilI xe) ?_
  refine JO.py (Py.fld fld131_0 xe xoff) ?_
  refine JO.store siz22 xe xe (by first | rfl | assumption) xpick xsize xnorm ?_
  refine nC (sR ?_)
  refine oM ?_
  refine oA ?_
  refine oC ?_
  refine nC (JC.ret (JX.ret ?_))
  refine JX.end2 (Or.inl rfl) (()) Tryz.results68 (tup2 ((xe).trans (by first | exact xval | (dsimp only; exact xval))) ((xe).trans (by first | exact xval | (dsimp only; exact xval)))) xpkE
theorem fTryF_con (G : Gst) (rb : Nat) (Rv cv : Value) (a : Option Addr) (l c off n : Nat) (lr : Int) (h : c < l + 512) (hl : l ≤ c) (hc : c < 9223372036854775808) : Con Tryz.prog G 68 #[.pointer (some ⟨rb, 1, none⟩), .int .i64 512] [RcA rb Rv (.slice a l c) off lr n cv] (fun _ : Unit => .tuple #[.int .i64 0, .bool false]) (fun _ => [RcA rb Rv (.slice a l c) off lr n cv]) := by
  refine Con.intro Tryz.func68 rfl (by kernel_rfl) Tryz.ntmps68 (Nat.le_of_ble_eq_true rfl) ?_
  intro F
  show JC _ _ _ _ _ _ [(0, _), (1, _)] _ [_, _]
  refine sR ?_
  refine oC ?_
  refine oC ?_
  refine nC (JC.seq (sR ?_))
  refine oM ?_
  first | refine JO.py (Py.nil xe) ?_ | refine JO.py (Py.nilI xe) ?_
  refine JO.py (Py.fld fld131_0 xe xoff) ?_
  refine JO.py (Py.load scal22 xe xpick xrow) ?_
  refine JO.py (Py.lenS Tryz.underlying22 xe) ?_
  refine oA ?_
  refine nC (sR ?_)
  refine oM ?_
  refine oM ?_
  first | refine JO.py (Py.nil xe) ?_ | refine JO.py (Py.nilI xe) ?_
  refine JO.py (Py.fld fld131_0 xe xoff) ?_
  refine JO.py (Py.load scal22 xe xpick xrow) ?_
  refine JO.py (Py.capS Tryz.underlying22 xe) ?_
  refine oM ?_
  refine JO.py (Py.sub xe xe wI) ?_
  first | refine oD (Py.leq xe xe) ?_ | refine oU (Py.leq xe xe) ?_ | refine JO.py (Py.leq xe xe) ?_
  refine nC ?_
  refine cF ?_
  refine JC.skip (JX.code (sR ?_))
  refine oC ?_
  refine oC ?_
  refine nC (JC.ret ?_)
  refine JX.end2 (Or.inl rfl) (()) Tryz.results68 (tup2 ((xe).trans (by first | exact xval | (dsimp only; exact xval))) ((xe).trans (by first | exact xval | (dsimp only; exact xval)))) xpkE
theorem rd_front {cap : Nat} {xs : List Nat} (hx : ∀ x ∈ xs, x < 256) (hl : xs.length ≤ cap) : RdOk ((Array.replicate cap (Value.int .u8 0)).toList.take 0 ++ u8s xs ++ (Array.replicate cap (Value.int .u8 0)).toList.drop (0 + xs.length)).toArray 0 xs ∧ ((Array.replicate cap (Value.int .u8 0)).toList.take 0 ++ u8s xs ++ (Array.replicate cap (Value.int .u8 0)).toList.drop (0 + xs.length)).toArray.size = cap := by
  have h := RdOk.front (ps := Array.replicate cap (Value.int .u8 0)) hx rfl (by simpa using hl)
  have e : splice (Array.replicate cap (Value.int .u8 0)) 0 (u8s xs) = ((Array.replicate cap (Value.int .u8 0)).toList.take 0 ++ u8s xs ++ (Array.replicate cap (Value.int .u8 0)).toList.drop (0 + xs.length)).toArray := by
    unfold splice; rw [u8s_len]
  have hz := splice_size (ps := Array.replicate cap (Value.int .u8 0)) (o := 0) (news := u8s xs) (by rw [u8s_len]; simpa using hl)
  rw [e] at h hz
  exact ⟨h, by rw [hz]; simp⟩
set_option maxRecDepth 100000 in
theorem fGrowSlice_con (G : Gst) (b o m k N : Nat) (cur : Array Value) (xs : List Nat) (hr : RdOk cur o xs) (hl : xs.length = m) (h1 : 1 ≤ m) (hk : m ≤ k) (h2 : k ≤ 1000000) (hN : 512 ≤ N ∧ N ≤ 1000000) :
    Con Tryz.prog G 77 #[.slice (some ⟨b, o, none⟩) m k, .int .i64 (N : Int)] [cel b 5 cur] (fun x : {x : Nat × Nat × Array Value // RdOk x.2.2 0 xs ∧ x.2.2.size = x.2.1 ∧ m + N ≤ x.2.1 ∧ x.2.1 < 9223372036854775808} => .slice (some ⟨x.1.1, 0, none⟩) m x.1.2.1) (fun x => [cel x.1.1 5 x.1.2.2, cel b 5 cur]) := by
  have hrd : ∀ j v, (u8s xs)[j]? = some v → cur[o + j]? = some v := by
    have := hr.piece0 (m := xs.length) (Nat.le_refl _)
    rwa [List.take_length] at this
  have hx := hr.lt
  have hul : (u8s xs).length = m := by rw [u8s_len, hl]
  refine Con.introD Tryz.func77 rfl (by kernel_rfl) Tryz.ntmps77 (Nat.le_of_ble_eq_true rfl) ?_
  intro F
  show JC _ _ _ _ _ _ [(0, _), (1, _)] _ [_, _]
  refine sR ?_
  refine oC ?_
  refine nC (sR ?_)
  refine JO.dfr ?_
  refine nC (sR ?_)
  refine oM ?_
  refine JO.py (Py.lenS Tryz.underlying22 xe) ?_
  refine oM ?_
  refine JO.py (Py.add xe xe wI) ?_
  refine oA ?_
  refine nC (JC.seq (sR ?_))
  refine oM ?_
  refine oM ?_
  refine JO.py (Py.capS Tryz.underlying22 xe) ?_
  refine JO.py (Py.mul ev_const xe wI) ?_
  first | refine oD (Py.lss xe xe) ?_ | refine oU (Py.lss xe xe) ?_ | refine JO.py (Py.lss xe xe) ?_
  refine nC ?_
  by_cases hw : m + N < 2 * k
  · skip
    refine cT ?_
    refine JC.region ?_
    refine oM ?_
    refine JO.py (Py.capS Tryz.underlying22 xe) ?_
    refine JO.py (Py.mul ev_const xe wI) ?_
    refine oA ?_
    refine nC (sR ?_)
    refine oM ?_
    refine JO.appZ (m := 2 * k) Tryz.underlying22 Tryz.underlying3 elm5 ev_const xe (by omega) (by omega) (by omega) (by omega) ?_
    intro b21 c21 hc21 hd21
    refine oA ?_
    refine nC (sR ?_)
    refine oM ?_
    refine oM ?_
    refine JO.copy (news := u8s xs) (cs' := ((Array.replicate c21 (Value.int .u8 0)).toList.take 0 ++ u8s xs ++ (Array.replicate c21 (Value.int .u8 0)).toList.drop (0 + m)).toArray) Tryz.underlying22 info5 xe xe (hul) (by omega) xpick (Reads.cel (o := o) xpick hrd) (by simp; omega) (u8s_one) (rfl) ?_
    refine oA ?_
    refine nC (sR ?_)
    refine oM ?_
    refine oM ?_
    refine JO.py (Py.slc (l := 0) (h := m) (p := 0) (q := m) (c := c21) Tryz.underlying22 siz5 xe Bd.none (Bd.some xe (by omega)) (by omega) (by omega) (by omega) (by omega) (by omega) (by omega)) ?_
    refine oA ?_
    refine nC (JC.ret ?_)
    have hf := rd_front (cap := c21) hx (by omega)
    rw [hl] at hf
    refine JX.endD1 (Or.inl rfl) (⟨(b21, c21, _), hf.1, hf.2, by dsimp only; omega, hd21⟩) Tryz.results77 ((xe).trans (by first | exact xval | (dsimp only; exact xval))) ((fun w => by kernel_rfl)) (catch_idle) xpkE
  · skip
    refine cF ?_
    refine JC.skip (JX.code (sR ?_))
    refine oM ?_
    refine JO.appZ (m := m + N) Tryz.underlying22 Tryz.underlying3 elm5 ev_const xe (by omega) (by omega) (by omega) (by omega) ?_
    intro b21 c21 hc21 hd21
    refine oA ?_
    refine nC (sR ?_)
    refine oM ?_
    refine oM ?_
    refine JO.copy (news := u8s xs) (cs' := ((Array.replicate c21 (Value.int .u8 0)).toList.take 0 ++ u8s xs ++ (Array.replicate c21 (Value.int .u8 0)).toList.drop (0 + m)).toArray) Tryz.underlying22 info5 xe xe (hul) (by omega) xpick (Reads.cel (o := o) xpick hrd) (by simp; omega) (u8s_one) (rfl) ?_
    refine oA ?_
    refine nC (sR ?_)
    refine oM ?_
    refine oM ?_
    refine JO.py (Py.slc (l := 0) (h := m) (p := 0) (q := m) (c := c21) Tryz.underlying22 siz5 xe Bd.none (Bd.some xe (by omega)) (by omega) (by omega) (by omega) (by omega) (by omega) (by omega)) ?_
    refine oA ?_
    refine nC (JC.ret ?_)
    have hf := rd_front (cap := c21) hx (by omega)
    rw [hl] at hf
    refine JX.endD1 (Or.inl rfl) (⟨(b21, c21, _), hf.1, hf.2, by dsimp only; omega, hd21⟩) Tryz.results77 ((xe).trans (by first | exact xval | (dsimp only; exact xval))) ((fun w => by kernel_rfl)) (catch_idle) xpkE
set_option maxRecDepth 100000 in
theorem fGrowNil_con (G : Gst) :
    Con Tryz.prog G 77 #[.slice none 0 0, .int .i64 512] [] (fun x : {x : Nat × Nat // 512 ≤ x.2 ∧ x.2 < 9223372036854775808} => .slice (some ⟨x.1.1, 0, none⟩) 0 x.1.2) (fun x => [cel x.1.1 5 (Array.replicate x.1.2 (Value.int .u8 0))]) := by
  refine Con.introD Tryz.func77 rfl (by kernel_rfl) Tryz.ntmps77 (Nat.le_of_ble_eq_true rfl) ?_
  intro F
  show JC _ _ _ _ _ _ [(0, _), (1, _)] _ [_]
  refine sR ?_
  refine oC ?_
  refine nC (sR ?_)
  refine JO.dfr ?_
  refine nC (sR ?_)
  refine oM ?_
  refine JO.py (Py.lenS Tryz.underlying22 xe) ?_
  refine oM ?_
  refine JO.py (Py.add xe xe wI) ?_
  refine oA ?_
  refine nC (JC.seq (sR ?_))
  refine oM ?_
  refine oM ?_
  refine JO.py (Py.capS Tryz.underlying22 xe) ?_
  refine JO.py (Py.mul ev_const xe wI) ?_
  first | refine oD (Py.lss xe xe) ?_ | refine oU (Py.lss xe xe) ?_ | refine JO.py (Py.lss xe xe) ?_
  refine nC ?_
  refine cF ?_
  refine JC.skip (JX.code (sR ?_))
  refine oM ?_
  refine JO.appZ (m := 512) Tryz.underlying22 Tryz.underlying3 elm5 ev_const xe (by omega) (by omega) (by omega) (by omega) ?_
  intro b21 c21 hc21 hd21
  refine oA ?_
  refine nC (sR ?_)
  refine oM ?_
  refine oM ?_
  refine JO.copy0 Tryz.underlying22 info5 xe xe ?_
  refine oA ?_
  refine nC (sR ?_)
  refine oM ?_
  refine oM ?_
  refine JO.py (Py.slc (l := 0) (h := 0) (p := 0) (q := 0) (c := c21) Tryz.underlying22 siz5 xe Bd.none (Bd.some xe (by omega)) (by omega) (by omega) (by omega) (by omega) (by omega) (by omega)) ?_
  refine oA ?_
  refine nC (JC.ret ?_)
  refine JX.endD1 (Or.inl rfl) (⟨(b21, c21), hc21, hd21⟩) Tryz.results77 ((xe).trans (by first | exact xval | (dsimp only; exact xval))) ((fun w => by kernel_rfl)) (catch_idle) xpkE
end Go.Proofs.YtfpepghmbeoanaaGreatDoor
end

section
open Go Go.RowKit
namespace Go.Proofs.YtfpepghmbeoanaaGreatDoor
/-- Where a buffer's bytes lie. -/
structure BG where
  a : Option Nat
  off : Nat
  l : Nat
  c : Nat
  lr : Int
  cur : Array Value
def BG.adr (g : BG) : Option Addr := g.a.map fun b => ⟨b, 0, none⟩
def BG.A (g : BG) : Asn := match g.a with
  | none => fun h => h = fun _ => none
  | some b => cel b 5 g.cur
structure BG.Ok (g : BG) (xs : List Nat) (T : Nat) : Prop where
  len : g.off + xs.length = g.l
  lt : g.c < 9223372036854775808
  tot : g.l ≤ T
  nil : g.a = none → g.l = 0 ∧ g.c = 0
  blk : ∀ b, g.a = some b → RdOk g.cur g.off xs ∧ g.cur.size = g.c ∧ g.l ≤ g.c ∧ 512 ≤ g.c
abbrev BG.cells (g : BG) (rb : Nat) (Rv : Value) (n : Nat) (cv : Value) : List Asn := [RcA rb Rv (.slice g.adr g.l g.c) g.off g.lr n cv, g.A]
/-- A filter's reader with these bytes in its buffer. -/
def BuS (rb : Nat) (Rv : Value) (n : Nat) (cv : Value) (xs : List Nat) (T : Nat) : Asn := Ex fun g : {g : BG // g.Ok xs T} => g.1.cells rb Rv n cv
theorem Sat.bus {G : Gst} {w : World} {r : List Asn} {rb : Nat} {Rv : Value} {n : Nat} {cv : Value} {xs : List Nat} {T b off l c : Nat} {lr : Int} {cur : Array Value} (hw : Sat G w (RcA rb Rv (.slice (some ⟨b, 0, none⟩) l c) off lr n cv :: cel b 5 cur :: r))
    (h1 : off + xs.length = l) (h2 : RdOk cur off xs) (h3 : cur.size = c) (h4 : l ≤ c) (h5 : 512 ≤ c) (h6 : c < 9223372036854775808) (h7 : l ≤ T) : Sat G w (BuS rb Rv n cv xs T :: r) :=
  Sat.shuts (f := fun g : {g : BG // g.Ok xs T} => g.1.cells rb Rv n cv) ⟨⟨some b, off, l, c, lr, cur⟩, h1, h6, h7, fun h => (by cases h), fun b' hb => by
    obtain rfl : b = b' := Option.some.inj hb
    exact ⟨h2, h3, h4, h5⟩⟩ hw
section
variable {P : Program} {G : Gst} {ops : Array Oper} {Q : Exit → Act → World → Prop} {n' : Nat} {base : Nat → Value} {L : List (Nat × Value)} {D : List Deferred} {As r : List Asn}
theorem JX.bus {e : Exit} {rb : Nat} {Rv : Value} {n : Nat} {cv : Value} {xs : List Nat} {T b off l c : Nat} {lr : Int} {cur : Array Value} (q : Picks [RcA rb Rv (.slice (some ⟨b, 0, none⟩) l c) off lr n cv, cel b 5 cur] As r)
    (h1 : off + xs.length = l) (h2 : RdOk cur off xs) (h3 : cur.size = c) (h4 : l ≤ c) (h5 : 512 ≤ c) (h6 : c < 9223372036854775808) (h7 : l ≤ T) (k : JX G Q e n' base L D (BuS rb Rv n cv xs T :: r)) : JX G Q e n' base L D As :=
  ⟨fun w hw => k.run w (Sat.bus (hw.picks q) h1 h2 h3 h4 h5 h6 h7)⟩
theorem JC.bug {e : Code} {rb : Nat} {Rv : Value} {n : Nat} {cv : Value} {xs : List Nat} {T : Nat} {g : BG} {lr : Int} (q : Picks [RcA rb Rv (.slice g.adr g.l g.c) g.off lr n cv, g.A] As r)
    (h : g.Ok xs T) (k : JC P G Q e n' base L D (BuS rb Rv n cv xs T :: r)) : JC P G Q e n' base L D As :=
  ⟨fun w hw => k.run w (Sat.shuts (f := fun g : {g : BG // g.Ok xs T} => g.1.cells rb Rv n cv) ⟨⟨g.a, g.off, g.l, g.c, lr, g.cur⟩, h.len, h.lt, h.tot, h.nil, h.blk⟩ (hw.picks q))⟩
theorem JO.bug {e : List Oper} {rb : Nat} {Rv : Value} {n : Nat} {cv : Value} {xs : List Nat} {T : Nat} {g : BG} {lr : Int} (q : Picks [RcA rb Rv (.slice g.adr g.l g.c) g.off lr n cv, g.A] As r)
    (h : g.Ok xs T) (k : JO P G ops Q e n' base L D (BuS rb Rv n cv xs T :: r)) : JO P G ops Q e n' base L D As :=
  ⟨fun w hw => k.run w (Sat.shuts (f := fun g : {g : BG // g.Ok xs T} => g.1.cells rb Rv n cv) ⟨⟨g.a, g.off, g.l, g.c, lr, g.cur⟩, h.len, h.lt, h.tot, h.nil, h.blk⟩ (hw.picks q))⟩
end
/-- What a buffer that has grown looks like. -/
structure GrOk (xs : List Nat) (T : Nat) (x : Nat × Nat × Nat × Nat × Int × Array Value) : Prop where
  len : x.2.1 + xs.length = x.2.2.1
  rd : RdOk x.2.2.2.2.2 x.2.1 xs
  size : x.2.2.2.2.2.size = x.2.2.2.1
  room : x.2.2.1 + 512 ≤ x.2.2.2.1
  lt : x.2.2.2.1 < 9223372036854775808
  tot : x.2.2.1 ≤ T
abbrev GrA (rb : Nat) (Rv : Value) (n : Nat) (cv : Value) (x : Nat × Nat × Nat × Nat × Int × Array Value) : List Asn := [RcA rb Rv (.slice (some ⟨x.1, 0, none⟩) (x.2.2.1 + 512) x.2.2.2.1) x.2.1 x.2.2.2.2.1 n cv, cel x.1 5 x.2.2.2.2.2]
set_option maxRecDepth 100000 in
theorem fGrow0_con (G : Gst) (rb : Nat) (Rv cv : Value) (n : Nat) (lr : Int) (T : Nat) :
    Con Tryz.prog G 62 #[.pointer (some ⟨rb, 1, none⟩), .int .i64 512] [RcA rb Rv (.slice none 0 0) 0 lr n cv] (fun x : {x : Nat × Nat × Nat × Nat × Int × Array Value // GrOk [] T x} => .int .i64 (x.1.2.2.1 : Nat)) (fun x => GrA rb Rv n cv x.1) := by
  refine Con.intro Tryz.func62 rfl (by kernel_rfl) Tryz.ntmps62 (Nat.le_of_ble_eq_true rfl) ?_
  intro F
  show JC _ _ _ _ _ _ [(0, _), (1, _)] _ [_, _]
  refine sR ?_
  refine oC ?_
  refine nC (sR ?_)
  refine oM ?_
  refine JO.call (Evs.cons xe Evs.nil) (fLen_con G rb Rv cv none 0 0 0 n lr (Nat.le_refl _) (by decide)) xpkE ?_
  rintro _
  show JO _ _ _ _ _ _ _ ((10, _) :: _) _ (_ :: _ :: _)
  rw [show ((0 - 0 : Nat) : Int) = 0 from rfl]
  refine oA ?_
  refine nC (JC.seq (sR ?_))
  refine oM ?_
  first | refine oD (Py.eql xe ev_const) ?_ | refine oU (Py.eql xe ev_const) ?_ | refine JO.py (Py.eql xe ev_const) ?_
  refine oM ?_
  first | (refine gT ?_; (refine oM ?_)) | refine kF ?_ | refine JO.skipU rfl (Lk.ev (v := undef) xlk rfl) ?_
  first | (refine gT ?_; (first | refine JO.py (Py.nil xe) ?_ | refine JO.py (Py.nilI xe) ?_)) | refine kF ?_ | refine JO.skipU rfl (Lk.ev (v := undef) xlk rfl) ?_
  first | (refine gT ?_; (refine JO.py (Py.fld fld131_1 xe xoff) ?_)) | refine kF ?_ | refine JO.skipU rfl (Lk.ev (v := undef) xlk rfl) ?_
  first | (refine gT ?_; (refine JO.py (Py.load scal3 xe xpick xrow) ?_)) | refine kF ?_ | refine JO.skipU rfl (Lk.ev (v := undef) xlk rfl) ?_
  first | (refine gT ?_; (first | refine oD (Py.neq xe ev_const) ?_ | refine oU (Py.neq xe ev_const) ?_ | refine JO.py (Py.neq xe ev_const) ?_)) | refine kF ?_ | refine JO.skipU rfl (Lk.ev (v := undef) xlk rfl) ?_
  first | refine JO.py (Py.pickT xe xe) ?_ | refine JO.py (Py.pickF xe ev_const) ?_
  refine nC ?_
  refine cF ?_
  refine JC.skip (JX.code (JC.seq (sR ?_)))
  refine oM ?_
  refine oM ?_
  refine JO.call (Evs.cons xe (Evs.cons xe Evs.nil)) (fTryF_con G rb Rv cv none 0 0 0 n lr (by decide) (by decide) (by decide)) xpkE ?_
  rintro _
  show JO _ _ _ _ _ _ _ ((25, _) :: _) _ (_ :: _ :: _)
  refine oM ?_
  refine JO.py (Py.extrI xe xix) ?_
  refine JO.py (Py.extrI xe xix) ?_
  refine oA ?_
  refine oA ?_
  refine nC (sR ?_)
  refine oM ?_
  refine nC ?_
  refine cF ?_
  refine JC.skip (JX.code (JC.seq (sR ?_)))
  refine oM ?_
  first | refine JO.py (Py.nil xe) ?_ | refine JO.py (Py.nilI xe) ?_
  refine JO.py (Py.fld fld131_0 xe xoff) ?_
  refine JO.py (Py.load scal22 xe xpick xrow) ?_
  refine JO.py (Py.to (v' := .bool true) (Py.eqlSN Tryz.underlying22 xe) rfl) ?_
  refine oM ?_
  first | (refine gT ?_; (refine oM ?_)) | refine kF ?_ | refine JO.skipU rfl (Lk.ev (v := undef) xlk rfl) ?_
  first | (refine gT ?_; (first | refine oD (Py.leq xe ev_const) ?_ | refine oU (Py.leq xe ev_const) ?_ | refine JO.py (Py.leq xe ev_const) ?_)) | refine kF ?_ | refine JO.skipU rfl (Lk.ev (v := undef) xlk rfl) ?_
  first | refine JO.py (Py.pickT xe xe) ?_ | refine JO.py (Py.pickF xe ev_const) ?_
  refine nC ?_
  refine cF ?_
  refine JC.skip (JX.code (sR ?_))
  refine oM ?_
  first | refine JO.py (Py.nil xe) ?_ | refine JO.py (Py.nilI xe) ?_
  refine JO.py (Py.fld fld131_0 xe xoff) ?_
  refine JO.py (Py.load scal22 xe xpick xrow) ?_
  refine JO.py (Py.capS Tryz.underlying22 xe) ?_
  refine oA ?_
  refine nC (JC.seq (sR ?_))
  refine oM ?_
  refine oM ?_
  refine JO.py (Py.quo xe ev_const (by omega) (by omega) wI) ?_
  refine oM ?_
  refine JO.py (Py.sub xe xe wI) ?_
  first | refine oD (Py.leq xe xe) ?_ | refine oU (Py.leq xe xe) ?_ | refine JO.py (Py.leq xe xe) ?_
  refine nC ?_
  refine cF ?_
  refine sR ?_
  refine oM ?_
  refine oM ?_
  refine JO.py (Py.sub ev_const xe wI) ?_
  refine oM ?_
  refine JO.py (Py.sub xe xe wI) ?_
  first | refine oD (Py.gtr xe xe) ?_ | refine oU (Py.gtr xe xe) ?_ | refine JO.py (Py.gtr xe xe) ?_
  refine nC ?_
  refine cF ?_
  refine JC.regionM [(0, true), (1, true), (2, true), (3, true), (4, true), (5, true), (6, true), (7, true), (8, true), (9, true), (10, true), (11, true), (12, true), (13, true), (14, true), (15, true), (16, false), (17, true), (18, true), (19, false)] mixed (by kernel_rfl) ?_
  refine JM.py ao ⟨fun _ => Py.move xe⟩ ?_
  refine JM.py ao ⟨fun _ => Py.move xe⟩ ?_
  first | refine JM.py ao ⟨fun _ => Py.nil xe⟩ ?_ | refine JM.py ao ⟨fun _ => Py.nilI xe⟩ ?_
  refine JM.py ao ⟨fun _ => Py.fld fld131_0 xe xoff⟩ ?_
  refine JM.ld ao scal22 xe xpick xrow ?_
  refine JM.py ao ⟨fun _ => Py.move xe⟩ ?_
  first | refine JM.py ao ⟨fun _ => Py.nil xe⟩ ?_ | refine JM.py ao ⟨fun _ => Py.nilI xe⟩ ?_
  refine JM.py ao ⟨fun _ => Py.fld fld131_1 xe xoff⟩ ?_
  refine JM.ld ao scal3 xe xpick xrow ?_
  refine JM.py ao ⟨fun _ => Py.slcN Tryz.underlying22 siz5 xe (Bd.some xe rfl) Bd.none⟩ ?_
  refine JM.py ao ⟨fun _ => Py.move xe⟩ ?_
  first | refine JM.py ao ⟨fun _ => Py.nil xe⟩ ?_ | refine JM.py ao ⟨fun _ => Py.nilI xe⟩ ?_
  refine JM.py ao ⟨fun _ => Py.fld fld131_1 xe xoff⟩ ?_
  refine JM.ld ao scal3 xe xpick xrow ?_
  refine JM.py ao ⟨fun _ => Py.move xe⟩ ?_
  refine JM.py ao ⟨fun _ => Py.add (c := 512) xe xe rfl⟩ ?_
  refine JM.eff ao ?_
  refine JO.call (Evs.cons xe (Evs.cons xe Evs.nil)) (fGrowNil_con G) xpkE ?_
  rintro ⟨⟨nb, nc⟩, hc1, hc2⟩
  show JO _ _ _ _ _ _ _ ((92, _) :: _) _ (_ :: _ :: _)
  dsimp only at hc1 hc2 ⊢
  refine JO.nil ?_
  refine JX.mix (Kept.drop (Forced.trans (q := 15) (Forced.step (by kernel_rfl)) (Forced.step (by kernel_rfl))) (Kept.drop (Forced.trans (q := 9) (Forced.step (by kernel_rfl)) (Forced.step (by kernel_rfl))) (Kept.drop (Forced.trans (q := 9) (Forced.step (by kernel_rfl)) (Forced.step (by kernel_rfl))) Kept.nil))) ?_
  first | refine JM.py ao ⟨fun _ => Py.nil xe⟩ ?_ | refine JM.py ao ⟨fun _ => Py.nilI xe⟩ ?_
  refine JM.py ao ⟨fun _ => Py.fld fld131_0 xe xoff⟩ ?_
  refine JM.eff ao ?_
  refine JO.store siz22 xe xe (by first | rfl | assumption) xpick xsize xnorm ?_
  refine JO.nil ?_
  refine JX.mix Kept.nil ?_
  refine JM.nil (JX.code (sR ?_))
  refine oM ?_
  first | refine JO.py (Py.nil xe) ?_ | refine JO.py (Py.nilI xe) ?_
  refine JO.py (Py.fld fld131_1 xe xoff) ?_
  refine JO.store siz3 xe ev_const (by first | rfl | assumption) xpick xsize xnorm ?_
  refine nC (sR ?_)
  refine oM ?_
  refine oM ?_
  first | refine JO.py (Py.nil xe) ?_ | refine JO.py (Py.nilI xe) ?_
  refine JO.py (Py.fld fld131_0 xe xoff) ?_
  refine JO.py (Py.load scal22 xe xpick xrow) ?_
  refine oM ?_
  refine oM ?_
  refine JO.py (Py.add xe xe wI) ?_
  refine JO.py (Py.slc (l := 0) (h := 512) (p := 0) (q := 512) (c := nc) Tryz.underlying22 siz5 xe Bd.none (Bd.some xe (by omega)) (by omega) (by omega) (by omega) (by omega) (by omega) (by omega)) ?_
  first | refine JO.py (Py.nil xe) ?_ | refine JO.py (Py.nilI xe) ?_
  refine JO.py (Py.fld fld131_0 xe xoff) ?_
  refine JO.store siz22 xe xe (by first | rfl | assumption) xpick xsize xnorm ?_
  refine nC (sR ?_)
  refine oM ?_
  refine oA ?_
  refine nC (JC.ret ?_)
  refine JX.end1 (Or.inl rfl) (⟨(nb, 0, 0, nc, lr, Array.replicate nc (Value.int .u8 0)), rfl, RdOk.nil _ _, by simp, by dsimp only; omega, hc2, Nat.zero_le _⟩) Tryz.results62 ((xe).trans (by first | exact xval | (dsimp only; exact xval))) xpkE
set_option maxRecDepth 100000 in
theorem fGrowB_con (G : Gst) (rb : Nat) (Rv cv : Value) (n : Nat) (lr : Int) (T b off l c : Nat) (cur : Array Value) (xs : List Nat) (h1 : off + xs.length = l) (h2 : RdOk cur off xs) (h3 : cur.size = c) (h4 : l ≤ c) (h5 : 512 ≤ c) (h6 : c < 9223372036854775808) (h7 : l ≤ T) (hT : T ≤ 100000) :
    Con Tryz.prog G 62 #[.pointer (some ⟨rb, 1, none⟩), .int .i64 512] [RcA rb Rv (.slice (some ⟨b, 0, none⟩) l c) off lr n cv, cel b 5 cur] (fun x : {x : Nat × Nat × Nat × Nat × Int × Array Value // GrOk xs T x} => .int .i64 (x.1.2.2.1 : Nat)) (fun x => GrA rb Rv n cv x.1) := by
  have hrd : ∀ j v, (u8s xs)[j]? = some v → cur[off + j]? = some v := by
    have := h2.piece0 (m := xs.length) (Nat.le_refl _)
    rwa [List.take_length] at this
  have hx := h2.lt
  obtain ⟨m, hm⟩ : ∃ m, xs.length = m := ⟨_, rfl⟩
  have hul : (u8s xs).length = m := by rw [u8s_len, hm]
  have hlo : l - off = m := by omega
  refine Con.intro Tryz.func62 rfl (by kernel_rfl) Tryz.ntmps62 (Nat.le_of_ble_eq_true rfl) ?_
  intro F
  show JC _ _ _ _ _ _ [(0, _), (1, _)] _ [_, _, _]
  refine sR ?_
  refine oC ?_
  refine nC (sR ?_)
  refine oM ?_
  refine JO.call (Evs.cons xe Evs.nil) (fLen_con G rb Rv cv (some ⟨b, 0, none⟩) l c off n lr (by omega) (by omega)) xpkE ?_
  rintro _
  show JO _ _ _ _ _ _ _ ((10, _) :: _) _ (_ :: _ :: _)
  rw [hlo]
  by_cases hm0 : m = 0
  · skip
    obtain rfl : xs = [] := List.eq_nil_of_length_eq_zero (by omega)
    by_cases ho : off = 0
    · skip
      refine oA ?_
      refine nC (JC.seq (sR ?_))
      refine oM ?_
      first | refine oD (Py.eql xe ev_const) ?_ | refine oU (Py.eql xe ev_const) ?_ | refine JO.py (Py.eql xe ev_const) ?_
      refine oM ?_
      first | (refine gT ?_; (refine oM ?_)) | refine kF ?_ | refine JO.skipU rfl (Lk.ev (v := undef) xlk rfl) ?_
      first | (refine gT ?_; (first | refine JO.py (Py.nil xe) ?_ | refine JO.py (Py.nilI xe) ?_)) | refine kF ?_ | refine JO.skipU rfl (Lk.ev (v := undef) xlk rfl) ?_
      first | (refine gT ?_; (refine JO.py (Py.fld fld131_1 xe xoff) ?_)) | refine kF ?_ | refine JO.skipU rfl (Lk.ev (v := undef) xlk rfl) ?_
      first | (refine gT ?_; (refine JO.py (Py.load scal3 xe xpick xrow) ?_)) | refine kF ?_ | refine JO.skipU rfl (Lk.ev (v := undef) xlk rfl) ?_
      first | (refine gT ?_; (first | refine oD (Py.neq xe ev_const) ?_ | refine oU (Py.neq xe ev_const) ?_ | refine JO.py (Py.neq xe ev_const) ?_)) | refine kF ?_ | refine JO.skipU rfl (Lk.ev (v := undef) xlk rfl) ?_
      first | refine JO.py (Py.pickT xe xe) ?_ | refine JO.py (Py.pickF xe ev_const) ?_
      refine nC ?_
      refine cF ?_
      refine JC.skip (JX.code (JC.seq (sR ?_)))
      refine oM ?_
      refine oM ?_
      refine JO.call (Evs.cons xe (Evs.cons xe Evs.nil)) (fTryT_con G rb Rv cv b l c off n lr (by omega) h6) xpkE ?_
      rintro _
      show JO _ _ _ _ _ _ _ ((25, _) :: _) _ (_ :: _ :: _)
      refine oM ?_
      refine JO.py (Py.extrI xe xix) ?_
      refine JO.py (Py.extrI xe xix) ?_
      refine oA ?_
      refine oA ?_
      refine nC (sR ?_)
      refine oM ?_
      refine nC ?_
      refine cT ?_
      refine sR ?_
      refine oM ?_
      refine oA ?_
      refine nC (JC.ret (JX.ret ?_))
      refine JX.end1 (Or.inl rfl) (⟨(b, off, l, c, lr, cur), h1, h2, h3, by dsimp only; omega, h6, h7⟩) Tryz.results62 ((xe).trans (by first | exact xval | (dsimp only; exact xval))) xpkE
    · skip
      refine oA ?_
      refine nC (JC.seq (sR ?_))
      refine oM ?_
      first | refine oD (Py.eql xe ev_const) ?_ | refine oU (Py.eql xe ev_const) ?_ | refine JO.py (Py.eql xe ev_const) ?_
      refine oM ?_
      first | (refine gT ?_; (refine oM ?_)) | refine kF ?_ | refine JO.skipU rfl (Lk.ev (v := undef) xlk rfl) ?_
      first | (refine gT ?_; (first | refine JO.py (Py.nil xe) ?_ | refine JO.py (Py.nilI xe) ?_)) | refine kF ?_ | refine JO.skipU rfl (Lk.ev (v := undef) xlk rfl) ?_
      first | (refine gT ?_; (refine JO.py (Py.fld fld131_1 xe xoff) ?_)) | refine kF ?_ | refine JO.skipU rfl (Lk.ev (v := undef) xlk rfl) ?_
      first | (refine gT ?_; (refine JO.py (Py.load scal3 xe xpick xrow) ?_)) | refine kF ?_ | refine JO.skipU rfl (Lk.ev (v := undef) xlk rfl) ?_
      first | (refine gT ?_; (first | refine oD (Py.neq xe ev_const) ?_ | refine oU (Py.neq xe ev_const) ?_ | refine JO.py (Py.neq xe ev_const) ?_)) | refine kF ?_ | refine JO.skipU rfl (Lk.ev (v := undef) xlk rfl) ?_
      first | refine JO.py (Py.pickT xe xe) ?_ | refine JO.py (Py.pickF xe ev_const) ?_
      refine nC ?_
      refine cT ?_
      refine JC.region ?_
      refine oM ?_
      refine JO.call (Evs.cons xe Evs.nil) (fReset_con G rb Rv cv b l c off n lr h4 (by omega)) xpkE ?_
      rintro _
      show JO _ _ _ _ _ _ _ ((21, _) :: _) _ (_ :: _ :: _)
      refine nC (JC.seq (sR ?_))
      refine oM ?_
      refine oM ?_
      refine JO.call (Evs.cons xe (Evs.cons xe Evs.nil)) (fTryT_con G rb Rv cv b 0 c 0 n 0 (by omega) h6) xpkE ?_
      rintro _
      show JO _ _ _ _ _ _ _ ((25, _) :: _) _ (_ :: _ :: _)
      refine oM ?_
      refine JO.py (Py.extrI xe xix) ?_
      refine JO.py (Py.extrI xe xix) ?_
      refine oA ?_
      refine oA ?_
      refine nC (sR ?_)
      refine oM ?_
      refine nC ?_
      refine cT ?_
      refine sR ?_
      refine oM ?_
      refine oA ?_
      refine nC (JC.ret (JX.ret ?_))
      refine JX.end1 (Or.inl rfl) (⟨(b, 0, 0, c, 0, cur), rfl, RdOk.nil _ _, h3, by dsimp only; omega, h6, Nat.zero_le _⟩) Tryz.results62 ((xe).trans (by first | exact xval | (dsimp only; exact xval))) xpkE
  · skip
    refine oA ?_
    refine nC (JC.seq (sR ?_))
    refine oM ?_
    first | refine oD (Py.eql xe ev_const) ?_ | refine oU (Py.eql xe ev_const) ?_ | refine JO.py (Py.eql xe ev_const) ?_
    refine oM ?_
    first | (refine gT ?_; (refine oM ?_)) | refine kF ?_ | refine JO.skipU rfl (Lk.ev (v := undef) xlk rfl) ?_
    first | (refine gT ?_; (first | refine JO.py (Py.nil xe) ?_ | refine JO.py (Py.nilI xe) ?_)) | refine kF ?_ | refine JO.skipU rfl (Lk.ev (v := undef) xlk rfl) ?_
    first | (refine gT ?_; (refine JO.py (Py.fld fld131_1 xe xoff) ?_)) | refine kF ?_ | refine JO.skipU rfl (Lk.ev (v := undef) xlk rfl) ?_
    first | (refine gT ?_; (refine JO.py (Py.load scal3 xe xpick xrow) ?_)) | refine kF ?_ | refine JO.skipU rfl (Lk.ev (v := undef) xlk rfl) ?_
    first | (refine gT ?_; (first | refine oD (Py.neq xe ev_const) ?_ | refine oU (Py.neq xe ev_const) ?_ | refine JO.py (Py.neq xe ev_const) ?_)) | refine kF ?_ | refine JO.skipU rfl (Lk.ev (v := undef) xlk rfl) ?_
    first | refine JO.py (Py.pickT xe xe) ?_ | refine JO.py (Py.pickF xe ev_const) ?_
    refine nC ?_
    refine cF ?_
    refine JC.skip (JX.code (JC.seq (sR ?_)))
    refine oM ?_
    refine oM ?_
    by_cases hf : l + 512 ≤ c
    · skip
      refine JO.call (Evs.cons xe (Evs.cons xe Evs.nil)) (fTryT_con G rb Rv cv b l c off n lr hf h6) xpkE ?_
      rintro _
      show JO _ _ _ _ _ _ _ ((25, _) :: _) _ (_ :: _ :: _)
      refine oM ?_
      refine JO.py (Py.extrI xe xix) ?_
      refine JO.py (Py.extrI xe xix) ?_
      refine oA ?_
      refine oA ?_
      refine nC (sR ?_)
      refine oM ?_
      refine nC ?_
      refine cT ?_
      refine sR ?_
      refine oM ?_
      refine oA ?_
      refine nC (JC.ret (JX.ret ?_))
      refine JX.end1 (Or.inl rfl) (⟨(b, off, l, c, lr, cur), h1, h2, h3, hf, h6, h7⟩) Tryz.results62 ((xe).trans (by first | exact xval | (dsimp only; exact xval))) xpkE
    · skip
      refine JO.call (Evs.cons xe (Evs.cons xe Evs.nil)) (fTryF_con G rb Rv cv (some ⟨b, 0, none⟩) l c off n lr (by omega) h4 h6) xpkE ?_
      rintro _
      show JO _ _ _ _ _ _ _ ((25, _) :: _) _ (_ :: _ :: _)
      refine oM ?_
      refine JO.py (Py.extrI xe xix) ?_
      refine JO.py (Py.extrI xe xix) ?_
      refine oA ?_
      refine oA ?_
      refine nC (sR ?_)
      refine oM ?_
      refine nC ?_
      refine cF ?_
      refine JC.skip (JX.code (JC.seq (sR ?_)))
      refine oM ?_
      first | refine JO.py (Py.nil xe) ?_ | refine JO.py (Py.nilI xe) ?_
      refine JO.py (Py.fld fld131_0 xe xoff) ?_
      refine JO.py (Py.load scal22 xe xpick xrow) ?_
      refine JO.py (Py.to (v' := .bool false) (Py.eqlSN Tryz.underlying22 xe) rfl) ?_
      refine oM ?_
      first | (refine gT ?_; (refine oM ?_)) | refine kF ?_ | refine JO.skipU rfl (Lk.ev (v := undef) xlk rfl) ?_
      first | (refine gT ?_; (first | refine oD (Py.leq xe ev_const) ?_ | refine oU (Py.leq xe ev_const) ?_ | refine JO.py (Py.leq xe ev_const) ?_)) | refine kF ?_ | refine JO.skipU rfl (Lk.ev (v := undef) xlk rfl) ?_
      first | refine JO.py (Py.pickT xe xe) ?_ | refine JO.py (Py.pickF xe ev_const) ?_
      refine nC ?_
      refine cF ?_
      refine JC.skip (JX.code (sR ?_))
      refine oM ?_
      first | refine JO.py (Py.nil xe) ?_ | refine JO.py (Py.nilI xe) ?_
      refine JO.py (Py.fld fld131_0 xe xoff) ?_
      refine JO.py (Py.load scal22 xe xpick xrow) ?_
      refine JO.py (Py.capS Tryz.underlying22 xe) ?_
      refine oA ?_
      refine nC (JC.seq (sR ?_))
      refine oM ?_
      refine oM ?_
      refine JO.py (Py.quo xe ev_const (by omega) (by omega) wI) ?_
      refine oM ?_
      refine JO.py (Py.sub xe xe wI) ?_
      first | refine oD (Py.leq xe xe) ?_ | refine oU (Py.leq xe xe) ?_ | refine JO.py (Py.leq xe xe) ?_
      refine nC ?_
      by_cases hs : 512 ≤ (c : Int) / 2 - m
      · skip
        refine cT ?_
        refine JC.regionM [(0, true), (1, true), (2, true), (3, true), (4, true), (5, true), (6, true), (7, true), (8, true), (9, true), (10, true), (11, true), (12, true), (13, false)] mixed (by kernel_rfl) ?_
        refine JM.py ao ⟨fun _ => Py.move xe⟩ ?_
        first | refine JM.py ao ⟨fun _ => Py.nil xe⟩ ?_ | refine JM.py ao ⟨fun _ => Py.nilI xe⟩ ?_
        refine JM.py ao ⟨fun _ => Py.fld fld131_0 xe xoff⟩ ?_
        refine JM.ld ao scal22 xe xpick xrow ?_
        refine JM.py ao ⟨fun _ => Py.move xe⟩ ?_
        first | refine JM.py ao ⟨fun _ => Py.nil xe⟩ ?_ | refine JM.py ao ⟨fun _ => Py.nilI xe⟩ ?_
        refine JM.py ao ⟨fun _ => Py.fld fld131_0 xe xoff⟩ ?_
        refine JM.ld ao scal22 xe xpick xrow ?_
        refine JM.py ao ⟨fun _ => Py.move xe⟩ ?_
        first | refine JM.py ao ⟨fun _ => Py.nil xe⟩ ?_ | refine JM.py ao ⟨fun _ => Py.nilI xe⟩ ?_
        refine JM.py ao ⟨fun _ => Py.fld fld131_1 xe xoff⟩ ?_
        refine JM.ld ao scal3 xe xpick xrow ?_
        refine JM.py ao ⟨fun _ => Py.slc (l := off) (h := l) (p := off) (q := m) (c := c - off) Tryz.underlying22 siz5 xe (Bd.some xe (by omega)) Bd.none (by omega) (by omega) (by omega) (by omega) (by omega) (by omega)⟩ ?_
        refine JM.eff ao ?_
        refine JO.copy (news := u8s xs) (cs' := splice cur 0 (u8s xs)) Tryz.underlying22 info5 xe xe (hul) (by omega) xpick (Reads.cel (o := off) xpick hrd) (by omega) (u8s_one) (by unfold splice; rw [hul]) ?_
        refine JO.nil ?_
        refine JX.mix (Kept.drop (Forced.trans (q := 12) (Forced.step (by kernel_rfl)) (Forced.step (by kernel_rfl))) (Kept.drop (Forced.trans (q := 12) (Forced.step (by kernel_rfl)) (Forced.step (by kernel_rfl))) (Kept.drop (Forced.step (by kernel_rfl)) Kept.nil))) ?_
        refine JM.nil (JX.code (sR ?_))
        refine oM ?_
        first | refine JO.py (Py.nil xe) ?_ | refine JO.py (Py.nilI xe) ?_
        refine JO.py (Py.fld fld131_1 xe xoff) ?_
        refine JO.store siz3 xe ev_const (by first | rfl | assumption) xpick xsize xnorm ?_
        refine nC (sR ?_)
        refine oM ?_
        refine oM ?_
        first | refine JO.py (Py.nil xe) ?_ | refine JO.py (Py.nilI xe) ?_
        refine JO.py (Py.fld fld131_0 xe xoff) ?_
        refine JO.py (Py.load scal22 xe xpick xrow) ?_
        refine oM ?_
        refine oM ?_
        refine JO.py (Py.add xe xe wI) ?_
        refine JO.py (Py.slc (l := 0) (h := m + 512) (p := 0) (q := m + 512) (c := c) Tryz.underlying22 siz5 xe Bd.none (Bd.some xe (by omega)) (by omega) (by omega) (by omega) (by omega) (by omega) (by omega)) ?_
        first | refine JO.py (Py.nil xe) ?_ | refine JO.py (Py.nilI xe) ?_
        refine JO.py (Py.fld fld131_0 xe xoff) ?_
        refine JO.store siz22 xe xe (by first | rfl | assumption) xpick xsize xnorm ?_
        refine nC (sR ?_)
        refine oM ?_
        refine oA ?_
        refine nC (JC.ret ?_)
        have hsz := splice_size (ps := cur) (o := 0) (news := u8s xs) (by omega)
        refine JX.end1 (Or.inl rfl) (⟨(b, 0, m, c, lr, splice cur 0 (u8s xs)), by dsimp only; omega, RdOk.front hx rfl (by omega), by dsimp only; omega, by dsimp only; omega, h6, by dsimp only; omega⟩) Tryz.results62 ((xe).trans (by first | exact xval | (dsimp only; exact xval))) xpkE
      · skip
        refine cF ?_
        refine sR ?_
        refine oM ?_
        refine oM ?_
        refine JO.py (Py.sub ev_const xe wI) ?_
        refine oM ?_
        refine JO.py (Py.sub xe xe wI) ?_
        first | refine oD (Py.gtr xe xe) ?_ | refine oU (Py.gtr xe xe) ?_ | refine JO.py (Py.gtr xe xe) ?_
        refine nC ?_
        refine cF ?_
        refine JC.regionM [(0, true), (1, true), (2, true), (3, true), (4, true), (5, true), (6, true), (7, true), (8, true), (9, true), (10, true), (11, true), (12, true), (13, true), (14, true), (15, true), (16, false), (17, true), (18, true), (19, false)] mixed (by kernel_rfl) ?_
        refine JM.py ao ⟨fun _ => Py.move xe⟩ ?_
        refine JM.py ao ⟨fun _ => Py.move xe⟩ ?_
        first | refine JM.py ao ⟨fun _ => Py.nil xe⟩ ?_ | refine JM.py ao ⟨fun _ => Py.nilI xe⟩ ?_
        refine JM.py ao ⟨fun _ => Py.fld fld131_0 xe xoff⟩ ?_
        refine JM.ld ao scal22 xe xpick xrow ?_
        refine JM.py ao ⟨fun _ => Py.move xe⟩ ?_
        first | refine JM.py ao ⟨fun _ => Py.nil xe⟩ ?_ | refine JM.py ao ⟨fun _ => Py.nilI xe⟩ ?_
        refine JM.py ao ⟨fun _ => Py.fld fld131_1 xe xoff⟩ ?_
        refine JM.ld ao scal3 xe xpick xrow ?_
        refine JM.py ao ⟨fun _ => Py.slc (l := off) (h := l) (p := off) (q := m) (c := c - off) Tryz.underlying22 siz5 xe (Bd.some xe (by omega)) Bd.none (by omega) (by omega) (by omega) (by omega) (by omega) (by omega)⟩ ?_
        refine JM.py ao ⟨fun _ => Py.move xe⟩ ?_
        first | refine JM.py ao ⟨fun _ => Py.nil xe⟩ ?_ | refine JM.py ao ⟨fun _ => Py.nilI xe⟩ ?_
        refine JM.py ao ⟨fun _ => Py.fld fld131_1 xe xoff⟩ ?_
        refine JM.ld ao scal3 xe xpick xrow ?_
        refine JM.py ao ⟨fun _ => Py.move xe⟩ ?_
        refine JM.py ao ⟨fun _ => Py.add (c := ((off + 512 : Nat) : Int)) xe xe (by rw [w_i64 (by omega)]; omega)⟩ ?_
        refine JM.eff ao ?_
        refine JO.call (Evs.cons xe (Evs.cons xe Evs.nil)) (fGrowSlice_con G b off m (c - off) (off + 512) cur xs h2 hm (by omega) (by omega) (by omega) (by omega)) xpkE ?_
        rintro ⟨⟨nb, nc, nr⟩, k1, k2, k3, k4⟩
        show JO _ _ _ _ _ _ _ ((92, _) :: _) _ (_ :: _ :: _ :: _)
        dsimp only at k1 k2 k3 k4 ⊢
        refine JO.nil ?_
        refine JX.mix (Kept.drop (Forced.trans (q := 15) (Forced.step (by kernel_rfl)) (Forced.step (by kernel_rfl))) (Kept.drop (Forced.trans (q := 9) (Forced.step (by kernel_rfl)) (Forced.step (by kernel_rfl))) (Kept.drop (Forced.trans (q := 9) (Forced.step (by kernel_rfl)) (Forced.step (by kernel_rfl))) Kept.nil))) ?_
        first | refine JM.py ao ⟨fun _ => Py.nil xe⟩ ?_ | refine JM.py ao ⟨fun _ => Py.nilI xe⟩ ?_
        refine JM.py ao ⟨fun _ => Py.fld fld131_0 xe xoff⟩ ?_
        refine JM.eff ao ?_
        refine JO.store siz22 xe xe (by first | rfl | assumption) xpick xsize xnorm ?_
        refine JO.nil ?_
        refine JX.mix Kept.nil ?_
        refine JM.nil (JX.code (sR ?_))
        refine oM ?_
        first | refine JO.py (Py.nil xe) ?_ | refine JO.py (Py.nilI xe) ?_
        refine JO.py (Py.fld fld131_1 xe xoff) ?_
        refine JO.store siz3 xe ev_const (by first | rfl | assumption) xpick xsize xnorm ?_
        refine nC (sR ?_)
        refine oM ?_
        refine oM ?_
        first | refine JO.py (Py.nil xe) ?_ | refine JO.py (Py.nilI xe) ?_
        refine JO.py (Py.fld fld131_0 xe xoff) ?_
        refine JO.py (Py.load scal22 xe xpick xrow) ?_
        refine oM ?_
        refine oM ?_
        refine JO.py (Py.add xe xe wI) ?_
        refine JO.py (Py.slc (l := 0) (h := m + 512) (p := 0) (q := m + 512) (c := nc) Tryz.underlying22 siz5 xe Bd.none (Bd.some xe (by omega)) (by omega) (by omega) (by omega) (by omega) (by omega) (by omega)) ?_
        first | refine JO.py (Py.nil xe) ?_ | refine JO.py (Py.nilI xe) ?_
        refine JO.py (Py.fld fld131_0 xe xoff) ?_
        refine JO.store siz22 xe xe (by first | rfl | assumption) xpick xsize xnorm ?_
        refine nC (sR ?_)
        refine oM ?_
        refine oA ?_
        refine nC (JC.ret ?_)
        refine JX.end1 (Or.inl rfl) (⟨(nb, 0, m, nc, lr, nr), by dsimp only; omega, k1, k2, by dsimp only; omega, k4, by dsimp only; omega⟩) Tryz.results62 ((xe).trans (by first | exact xval | (dsimp only; exact xval))) xpkE
theorem fGrow_con (G : Gst) (rb : Nat) (Rv cv : Value) (n : Nat) (xs : List Nat) (T : Nat) (hT : T ≤ 100000) :
    Con Tryz.prog G 62 #[.pointer (some ⟨rb, 1, none⟩), .int .i64 512] [BuS rb Rv n cv xs T] (fun x : {x : Nat × Nat × Nat × Nat × Int × Array Value // GrOk xs T x} => .int .i64 (x.1.2.2.1 : Nat)) (fun x => GrA rb Rv n cv x.1) := by
  refine ⟨(fGrow0_con G rb Rv cv n 0 T).1, fun F w hw => ?_⟩
  have hw1 : Sat G w (BuS rb Rv n cv xs T :: [F]) := hw
  obtain ⟨⟨⟨a, off, l, c, lr, cur⟩, k1, k2, k3, k4, k5⟩, hw2⟩ := Sat.opens (f := fun g : {g : BG // g.Ok xs T} => g.1.cells rb Rv n cv) hw1
  dsimp only at k1 k2 k3 k4 k5
  cases a with
  | none =>
    obtain ⟨rfl, rfl⟩ := k4 rfl
    obtain rfl : off = 0 := by omega
    obtain rfl : xs = [] := List.eq_nil_of_length_eq_zero (by omega)
    have hw3 : Sat G w ([RcA rb Rv (.slice none 0 0) 0 lr n cv] ++ [F]) := Sat.get (l := RcA rb Rv (.slice none 0 0) 0 lr n cv :: (fun h => h = fun _ => none) :: [F]) hw2 xpkE
    exact (fGrow0_con G rb Rv cv n lr T).2 F w hw3
  | some b =>
    obtain ⟨j1, j2, j3, j4⟩ := k5 b rfl
    exact (fGrowB_con G rb Rv cv n lr T b off l c cur xs k1 j1 j2 j3 j4 k2 k3 hT).2 F w hw2
end Go.Proofs.YtfpepghmbeoanaaGreatDoor
end

section
open Go Go.RowKit
namespace Go.Proofs.YtfpepghmbeoanaaGreatDoor
/-- A reader over a row of bytes. -/
def SrcA (r : Nat) (sv : Value) (st : List Nat) (i : Nat) : Asn := Ex fun p : Int => [BrA r sv i p, Row 5 sv (u8s st)]
theorem srcRead_con (G : Gst) (r : Nat) (sv : Value) (st : List Nat) (hst : ∀ x ∈ st, x < 256) (hsl : st.length ≤ 1000000) (i pb po pl pc k : Nat) (ps : Array Value) (hi : i < st.length) (hpl : 1 ≤ pl ∧ pl ≤ pc) (hp : po + pl ≤ ps.size) (hk : min pl (st.length - i) = k) :
    Con Tryz.prog G 139 #[.pointer (some ⟨r, 0, none⟩), .slice (some ⟨pb, po, none⟩) pl pc] [SrcA r sv st i, cel pb 5 ps] (fun _ : Unit => .tuple #[.int .i64 (k : Int), .nilIface]) (fun _ => [SrcA r sv st (i + k), cel pb 5 (splice ps po (u8s ((st.drop i).take k)))]) := by
  refine ⟨⟨_, _, Tryz.func139, rfl, by kernel_rfl⟩, fun F w hw => ?_⟩
  have hw1 : Sat G w (SrcA r sv st i :: [cel pb 5 ps, F]) := hw
  obtain ⟨p, hw2⟩ := Sat.opens (f := fun p : Int => [BrA r sv i p, Row 5 sv (u8s st)]) hw1
  have hw3 : Sat G w (Row 5 sv (u8s st) :: [BrA r sv i p, cel pb 5 ps, F]) := Sat.get (l := [BrA r sv i p, Row 5 sv (u8s st), cel pb 5 ps, F]) hw2 xpkE
  obtain ⟨b, cap, cur, rfl, h1, h2, h3, h4, hw4⟩ := hw3.unrow (by intro h; have := congrArg List.length h; rw [u8s_len, List.length_nil] at this; omega)
  have hro : RowOf (u8s st) cap cur := ⟨h1, h2, h3, h4⟩
  rw [u8s_len] at h1 hw4 ⊢
  have h := rdRead_con G r b 0 st.length cap i pb po pl pc p cur ps 5 (0, 0) st k (hro.rd hst) rfl hi h1 hsl hpl hp hk
  rw [piece_eq (by omega)] at h
  refine (h.2 F w (Sat.get hw4 xpkE)).mono ?_
  rintro e w' ⟨_, rfl, hs⟩
  refine ⟨(), rfl, ?_⟩
  have hs1 : Sat G w' (cel b 5 cur :: [BrA r (.slice (some ⟨b, 0, none⟩) st.length cap) (i + k) (-1), cel pb 5 (splice ps po (u8s ((st.drop i).take k))), F]) := Sat.get (l := [BrA r (.slice (some ⟨b, 0, none⟩) st.length cap) (i + k) (-1), cel b 5 cur, cel pb 5 (splice ps po (u8s ((st.drop i).take k))), F]) hs xpkE
  have hs2 := Sat.torow (m := st.length) hs1 hro (by rw [u8s_len])
  have hs3 : Sat G w' [BrA r (.slice (some ⟨b, 0, none⟩) st.length cap) (i + k) (-1), Row 5 (.slice (some ⟨b, 0, none⟩) st.length cap) (u8s st), cel pb 5 (splice ps po (u8s ((st.drop i).take k))), F] := Sat.get hs2 xpkE
  exact Sat.shuts (f := fun p : Int => [BrA r (.slice (some ⟨b, 0, none⟩) st.length cap) (i + k) p, Row 5 (.slice (some ⟨b, 0, none⟩) st.length cap) (u8s st)]) (-1) hs3
theorem srcReadE_con (G : Gst) (r : Nat) (sv : Value) (st : List Nat) (i pb po pl pc : Nat) (hi : st.length ≤ i) (ea : Addr) (eT : TypeId) (ef : Nat × Nat) :
    Con Tryz.prog G 139 #[.pointer (some ⟨r, 0, none⟩), .slice (some ⟨pb, po, none⟩) pl pc] [SrcA r sv st i, EofA ea eT ef] (fun _ : Unit => .tuple #[.int .i64 0, eofV ea]) (fun _ => [SrcA r sv st i, EofA ea eT ef]) := by
  refine Con.intro Tryz.func139 rfl (by kernel_rfl) Tryz.ntmps139 (Nat.le_of_ble_eq_true rfl) ?_
  intro F
  show JC _ _ _ _ _ _ [(0, _), (1, _)] _ [_, _, _]
  refine JC.as (A := SrcA r sv st i) (A' := Ex fun p : Int => [BrA r sv i p, Row 5 sv (u8s st)]) xpick (rfl) ?_
  refine JC.open xpick ?_
  rintro p
  show JC _ _ _ _ _ _ _ _ (_ :: _ :: _ :: _ :: _)
  refine JC.rowV (e := 5) (v := sv) (xs := u8s st) xpick ?_
  rintro a c rfl -
  rw [u8s_len]
  refine sR ?_
  refine oC ?_
  refine oC ?_
  refine nC (JC.seq (JC.seq ?_))
  refine JC.regionD mixed (by kernel_rfl) ?_
  refine JD.py (Py.move xe) ?_
  first | refine JD.py (Py.nil xe) ?_ | refine JD.py (Py.nilI xe) ?_
  refine JD.py (Py.fld fld96_1 xe xoff) ?_
  refine JD.py (Py.load scal2 xe xpick xrow) ?_
  refine JD.py (Py.move xe) ?_
  first | refine JD.py (Py.nil xe) ?_ | refine JD.py (Py.nilI xe) ?_
  refine JD.py (Py.fld fld96_0 xe xoff) ?_
  refine JD.py (Py.load scal22 xe xpick xrow) ?_
  refine JD.py (Py.lenS Tryz.underlying22 xe) ?_
  first | refine JD.py (Py.dec (Py.geq xe xe) (by omega)) ?_ | refine JD.py (Py.undec (Py.geq xe xe) (by omega)) ?_ | refine JD.py (Py.geq xe xe) ?_
  refine JD.nilN (JX.code ?_)
  refine cT ?_
  refine JC.seq ?_
  refine JC.regionD mixed (by kernel_rfl) ?_
  refine JD.py (Py.load scal70 ev_glob xpick xrow) ?_
  refine JD.py (Py.assign ev_const) ?_
  refine JD.py (Py.assign xe) ?_
  refine JD.nilN (JX.code (JC.ret (JX.ret ?_)))
  refine JX.shut (f := fun p : Int => [BrA r (.slice a st.length c) i p, Row 5 (.slice a st.length c) (u8s st)]) p xpicks ?_
  refine JX.as (A := Ex fun p : Int => [BrA r (.slice a st.length c) i p, Row 5 (.slice a st.length c) (u8s st)]) (A' := SrcA r (.slice a st.length c) st i) xpick (rfl) ?_
  refine JX.end2 (Or.inl rfl) (()) Tryz.results139 (tup2 ((xe).trans (by first | exact xval | (dsimp only; exact xval))) ((xe).trans (by first | exact xval | (dsimp only; exact xval)))) xpkE
abbrev rdV (r : Nat) : Value := .iface 88 (.agg #[.pointer (some ⟨r, 0, none⟩)])
theorem limK_con (G : Gst) (r : Nat) (sv : Value) (st : List Nat) (hst : ∀ x ∈ st, x < 256) (hsl : st.length ≤ 1000000) (l N i pb po pl pc k : Nat) (ps : Array Value) (hN : 0 < N) (hi : i < st.length) (hpl : N ≤ pl ∧ pl ≤ pc ∧ pl < 9223372036854775808) (hp : po + N ≤ ps.size) (hk : min N (st.length - i) = k) :
    Con Tryz.prog G 246 #[.pointer (some ⟨l, 0, none⟩), .slice (some ⟨pb, po, none⟩) pl pc] [cel l 282 #[rdV r, .int .i64 (N : Int)], SrcA r sv st i, cel pb 5 ps] (fun _ : Unit => .tuple #[.int .i64 (k : Int), .nilIface])
      (fun _ => [cel l 282 #[rdV r, .int .i64 ((N - k : Nat) : Int)], SrcA r sv st (i + k), cel pb 5 (splice ps po (u8s ((st.drop i).take k)))]) := by
  have hm := mth88R (.pointer (some ⟨r, 0, none⟩))
  refine Con.intro Tryz.func246 rfl (by kernel_rfl) Tryz.ntmps246 (Nat.le_of_ble_eq_true rfl) ?_
  intro F
  show JC _ _ _ _ _ _ [(0, _), (1, _)] _ [_, _, _, _]
  refine sR ?_
  refine oC ?_
  refine oC ?_
  refine nC (JC.seq (sR ?_))
  refine oM ?_
  first | refine JO.py (Py.nil xe) ?_ | refine JO.py (Py.nilI xe) ?_
  refine JO.py (Py.fld fld282_1 xe xoff) ?_
  refine JO.py (Py.load scal2 xe xpick xrow) ?_
  first | refine oD (Py.leq xe ev_const) ?_ | refine oU (Py.leq xe ev_const) ?_ | refine JO.py (Py.leq xe ev_const) ?_
  refine nC ?_
  refine cF ?_
  by_cases h : N < pl
  · skip
    refine JC.skip (JX.code (JC.seq (sR ?_)))
    refine oM ?_
    refine JO.py (Py.lenS Tryz.underlying22 xe) ?_
    refine oM ?_
    first | refine JO.py (Py.nil xe) ?_ | refine JO.py (Py.nilI xe) ?_
    refine JO.py (Py.fld fld282_1 xe xoff) ?_
    refine JO.py (Py.load scal2 xe xpick xrow) ?_
    first | refine oD (Py.gtr xe xe) ?_ | refine oU (Py.gtr xe xe) ?_ | refine JO.py (Py.gtr xe xe) ?_
    refine nC ?_
    refine cT ?_
    refine JC.region ?_
    refine oM ?_
    refine oM ?_
    first | refine JO.py (Py.nil xe) ?_ | refine JO.py (Py.nilI xe) ?_
    refine JO.py (Py.fld fld282_1 xe xoff) ?_
    refine JO.py (Py.load scal2 xe xpick xrow) ?_
    refine JO.py (Py.slc (l := 0) (h := N) (p := po) (q := N) (c := pc) Tryz.underlying22 siz5 xe (Bd.some ev_const (by omega)) (Bd.some xe (by omega)) (by omega) (by omega) (by omega) (by omega) (by omega) (by omega)) ?_
    refine oA ?_
    refine nC (sR ?_)
    refine oM ?_
    first | refine JO.py (Py.nil xe) ?_ | refine JO.py (Py.nilI xe) ?_
    refine JO.py (Py.fld fld282_0 xe xoff) ?_
    refine JO.py (Py.load scal113 xe xpick xrow) ?_
    refine oM ?_
    refine JO.invoke xe (Evs.cons xe Evs.nil) (hm) (srcRead_con G r sv st hst hsl i pb po N pc k ps hi (by omega) hp hk) xpkE ?_
    rintro _
    show JO _ _ _ _ _ _ _ ((31, _) :: _) _ (_ :: _ :: _ :: _)
    refine oM ?_
    refine JO.py (Py.extrI xe xix) ?_
    refine JO.py (Py.extrI xe xix) ?_
    refine oA ?_
    refine oA ?_
    refine nC (sR ?_)
    refine oM ?_
    first | refine JO.py (Py.nil xe) ?_ | refine JO.py (Py.nilI xe) ?_
    refine JO.py (Py.fld fld282_1 xe xoff) ?_
    refine JO.py (Py.load scal2 xe xpick xrow) ?_
    refine oM ?_
    refine JO.py (Py.sub xe xe wI) ?_
    first | refine JO.py (Py.nil xe) ?_ | refine JO.py (Py.nilI xe) ?_
    refine JO.py (Py.fld fld282_1 xe xoff) ?_
    refine JO.store siz2 xe xe (by first | rfl | assumption) xpick xsize xnorm ?_
    refine nC (JC.ret ?_)
    refine JX.end2 (Or.inl rfl) (()) Tryz.results246 (tup2 ((xe).trans (by first | exact xval | (dsimp only; exact xval))) ((xe).trans (by first | exact xval | (dsimp only; exact xval)))) xpkE
  · skip
    obtain rfl : pl = N := by omega
    refine JC.skip (JX.code (JC.seq (sR ?_)))
    refine oM ?_
    refine JO.py (Py.lenS Tryz.underlying22 xe) ?_
    refine oM ?_
    first | refine JO.py (Py.nil xe) ?_ | refine JO.py (Py.nilI xe) ?_
    refine JO.py (Py.fld fld282_1 xe xoff) ?_
    refine JO.py (Py.load scal2 xe xpick xrow) ?_
    first | refine oD (Py.gtr xe xe) ?_ | refine oU (Py.gtr xe xe) ?_ | refine JO.py (Py.gtr xe xe) ?_
    refine nC ?_
    refine cF ?_
    refine JC.skip (JX.code (sR ?_))
    refine oM ?_
    first | refine JO.py (Py.nil xe) ?_ | refine JO.py (Py.nilI xe) ?_
    refine JO.py (Py.fld fld282_0 xe xoff) ?_
    refine JO.py (Py.load scal113 xe xpick xrow) ?_
    refine oM ?_
    refine JO.invoke xe (Evs.cons xe Evs.nil) (hm) (srcRead_con G r sv st hst hsl i pb po pl pc k ps hi (by omega) hp hk) xpkE ?_
    rintro _
    show JO _ _ _ _ _ _ _ ((31, _) :: _) _ (_ :: _ :: _ :: _)
    refine oM ?_
    refine JO.py (Py.extrI xe xix) ?_
    refine JO.py (Py.extrI xe xix) ?_
    refine oA ?_
    refine oA ?_
    refine nC (sR ?_)
    refine oM ?_
    first | refine JO.py (Py.nil xe) ?_ | refine JO.py (Py.nilI xe) ?_
    refine JO.py (Py.fld fld282_1 xe xoff) ?_
    refine JO.py (Py.load scal2 xe xpick xrow) ?_
    refine oM ?_
    refine JO.py (Py.sub xe xe wI) ?_
    first | refine JO.py (Py.nil xe) ?_ | refine JO.py (Py.nilI xe) ?_
    refine JO.py (Py.fld fld282_1 xe xoff) ?_
    refine JO.store siz2 xe xe (by first | rfl | assumption) xpick xsize xnorm ?_
    refine nC (JC.ret ?_)
    refine JX.end2 (Or.inl rfl) (()) Tryz.results246 (tup2 ((xe).trans (by first | exact xval | (dsimp only; exact xval))) ((xe).trans (by first | exact xval | (dsimp only; exact xval)))) xpkE
theorem limE_con (G : Gst) (r : Nat) (sv : Value) (st : List Nat) (l N i pb po pl pc : Nat) (h : N = 0 ∨ st.length ≤ i) (hpl : N ≤ pl ∧ pl ≤ pc ∧ pl < 9223372036854775808) (hpo : 1 ≤ pl) (ea : Addr) (eT : TypeId) (ef : Nat × Nat) :
    Con Tryz.prog G 246 #[.pointer (some ⟨l, 0, none⟩), .slice (some ⟨pb, po, none⟩) pl pc] [cel l 282 #[rdV r, .int .i64 (N : Int)], SrcA r sv st i, EofA ea eT ef] (fun _ : Unit => .tuple #[.int .i64 0, eofV ea])
      (fun _ => [cel l 282 #[rdV r, .int .i64 (N : Int)], SrcA r sv st i, EofA ea eT ef]) := by
  have hm := mth88R (.pointer (some ⟨r, 0, none⟩))
  refine Con.intro Tryz.func246 rfl (by kernel_rfl) Tryz.ntmps246 (Nat.le_of_ble_eq_true rfl) ?_
  intro F
  show JC _ _ _ _ _ _ [(0, _), (1, _)] _ [_, _, _, _]
  by_cases hN : N = 0
  · skip
    refine sR ?_
    refine oC ?_
    refine oC ?_
    refine nC (JC.seq (sR ?_))
    refine oM ?_
    first | refine JO.py (Py.nil xe) ?_ | refine JO.py (Py.nilI xe) ?_
    refine JO.py (Py.fld fld282_1 xe xoff) ?_
    refine JO.py (Py.load scal2 xe xpick xrow) ?_
    first | refine oD (Py.leq xe ev_const) ?_ | refine oU (Py.leq xe ev_const) ?_ | refine JO.py (Py.leq xe ev_const) ?_
    refine nC ?_
    refine cT ?_
    refine JC.seq ?_
    refine JC.regionD mixed (by kernel_rfl) ?_
    refine JD.py (Py.load scal70 ev_glob xpick xrow) ?_
    refine JD.py (Py.assign ev_const) ?_
    refine JD.py (Py.assign xe) ?_
    refine JD.nilN (JX.code (JC.ret (JX.ret ?_)))
    refine JX.end2 (Or.inl rfl) (()) Tryz.results246 (tup2 ((xe).trans (by first | exact xval | (dsimp only; exact xval))) ((xe).trans (by first | exact xval | (dsimp only; exact xval)))) xpkE
  · skip
    have hi : st.length ≤ i := h.resolve_left hN
    refine sR ?_
    refine oC ?_
    refine oC ?_
    refine nC (JC.seq (sR ?_))
    refine oM ?_
    first | refine JO.py (Py.nil xe) ?_ | refine JO.py (Py.nilI xe) ?_
    refine JO.py (Py.fld fld282_1 xe xoff) ?_
    refine JO.py (Py.load scal2 xe xpick xrow) ?_
    first | refine oD (Py.leq xe ev_const) ?_ | refine oU (Py.leq xe ev_const) ?_ | refine JO.py (Py.leq xe ev_const) ?_
    refine nC ?_
    refine cF ?_
    by_cases h : N < pl
    · skip
      refine JC.skip (JX.code (JC.seq (sR ?_)))
      refine oM ?_
      refine JO.py (Py.lenS Tryz.underlying22 xe) ?_
      refine oM ?_
      first | refine JO.py (Py.nil xe) ?_ | refine JO.py (Py.nilI xe) ?_
      refine JO.py (Py.fld fld282_1 xe xoff) ?_
      refine JO.py (Py.load scal2 xe xpick xrow) ?_
      first | refine oD (Py.gtr xe xe) ?_ | refine oU (Py.gtr xe xe) ?_ | refine JO.py (Py.gtr xe xe) ?_
      refine nC ?_
      refine cT ?_
      refine JC.region ?_
      refine oM ?_
      refine oM ?_
      first | refine JO.py (Py.nil xe) ?_ | refine JO.py (Py.nilI xe) ?_
      refine JO.py (Py.fld fld282_1 xe xoff) ?_
      refine JO.py (Py.load scal2 xe xpick xrow) ?_
      refine JO.py (Py.slc (l := 0) (h := N) (p := po) (q := N) (c := pc) Tryz.underlying22 siz5 xe (Bd.some ev_const (by omega)) (Bd.some xe (by omega)) (by omega) (by omega) (by omega) (by omega) (by omega) (by omega)) ?_
      refine oA ?_
      refine nC (sR ?_)
      refine oM ?_
      first | refine JO.py (Py.nil xe) ?_ | refine JO.py (Py.nilI xe) ?_
      refine JO.py (Py.fld fld282_0 xe xoff) ?_
      refine JO.py (Py.load scal113 xe xpick xrow) ?_
      refine oM ?_
      refine JO.invoke xe (Evs.cons xe Evs.nil) (hm) (srcReadE_con G r sv st i pb po N pc hi ea eT ef) xpkE ?_
      rintro _
      show JO _ _ _ _ _ _ _ ((31, _) :: _) _ (_ :: _ :: _ :: _)
      refine oM ?_
      refine JO.py (Py.extrI xe xix) ?_
      refine JO.py (Py.extrI xe xix) ?_
      refine oA ?_
      refine oA ?_
      refine nC (sR ?_)
      refine oM ?_
      first | refine JO.py (Py.nil xe) ?_ | refine JO.py (Py.nilI xe) ?_
      refine JO.py (Py.fld fld282_1 xe xoff) ?_
      refine JO.py (Py.load scal2 xe xpick xrow) ?_
      refine oM ?_
      refine JO.py (Py.sub xe xe wI) ?_
      first | refine JO.py (Py.nil xe) ?_ | refine JO.py (Py.nilI xe) ?_
      refine JO.py (Py.fld fld282_1 xe xoff) ?_
      refine JO.store siz2 xe xe (by first | rfl | assumption) xpick xsize xnorm ?_
      refine nC (JC.ret ?_)
      refine JX.end2 (Or.inl rfl) (()) Tryz.results246 (tup2 ((xe).trans (by first | exact xval | (dsimp only; exact xval))) ((xe).trans (by first | exact xval | (dsimp only; exact xval)))) xpkE
    · skip
      obtain rfl : pl = N := by omega
      refine JC.skip (JX.code (JC.seq (sR ?_)))
      refine oM ?_
      refine JO.py (Py.lenS Tryz.underlying22 xe) ?_
      refine oM ?_
      first | refine JO.py (Py.nil xe) ?_ | refine JO.py (Py.nilI xe) ?_
      refine JO.py (Py.fld fld282_1 xe xoff) ?_
      refine JO.py (Py.load scal2 xe xpick xrow) ?_
      first | refine oD (Py.gtr xe xe) ?_ | refine oU (Py.gtr xe xe) ?_ | refine JO.py (Py.gtr xe xe) ?_
      refine nC ?_
      refine cF ?_
      refine JC.skip (JX.code (sR ?_))
      refine oM ?_
      first | refine JO.py (Py.nil xe) ?_ | refine JO.py (Py.nilI xe) ?_
      refine JO.py (Py.fld fld282_0 xe xoff) ?_
      refine JO.py (Py.load scal113 xe xpick xrow) ?_
      refine oM ?_
      refine JO.invoke xe (Evs.cons xe Evs.nil) (hm) (srcReadE_con G r sv st i pb po pl pc hi ea eT ef) xpkE ?_
      rintro _
      show JO _ _ _ _ _ _ _ ((31, _) :: _) _ (_ :: _ :: _ :: _)
      refine oM ?_
      refine JO.py (Py.extrI xe xix) ?_
      refine JO.py (Py.extrI xe xix) ?_
      refine oA ?_
      refine oA ?_
      refine nC (sR ?_)
      refine oM ?_
      first | refine JO.py (Py.nil xe) ?_ | refine JO.py (Py.nilI xe) ?_
      refine JO.py (Py.fld fld282_1 xe xoff) ?_
      refine JO.py (Py.load scal2 xe xpick xrow) ?_
      refine oM ?_
      refine JO.py (Py.sub xe xe wI) ?_
      first | refine JO.py (Py.nil xe) ?_ | refine JO.py (Py.nilI xe) ?_
      refine JO.py (Py.fld fld282_1 xe xoff) ?_
      refine JO.store siz2 xe xe (by first | rfl | assumption) xpick xsize xnorm ?_
      refine nC (JC.ret ?_)
      refine JX.end2 (Or.inl rfl) (()) Tryz.results246 (tup2 ((xe).trans (by first | exact xval | (dsimp only; exact xval))) ((xe).trans (by first | exact xval | (dsimp only; exact xval)))) xpkE
theorem nil285 (a : Addr) : NilA Tryz.prog 285 (.pointer (some a)) "Read" := fun w => by kernel_rfl
theorem take_more {st : List Nat} {i j k : Nat} {xs : List Nat} : (xs ++ (st.drop i).take j) ++ (st.drop (i + j)).take k = xs ++ (st.drop i).take (j + k) := by
  rw [List.append_assoc, List.take_add, List.drop_drop]
set_option maxRecDepth 100000 in
set_option maxHeartbeats 4000000 in
theorem readFrom_con (G : Gst) (rb : Nat) (cv : Value) (n r : Nat) (sv : Value) (st : List Nat) (hst : ∀ x ∈ st, x < 256) (xs : List Nat) (l N i T k : Nat) (hN : N ≤ 512) (hi : i ≤ st.length) (hT : T + N ≤ 90000) (hsl : st.length ≤ 60000) (hk : min N (st.length - i) = k) (ea : Addr) (eT : TypeId) (ef : Nat × Nat) :
    Con Tryz.prog G 257 #[.pointer (some ⟨rb, 1, none⟩), .iface 285 (.pointer (some ⟨l, 0, none⟩))] [BuS rb (rdV r) n cv xs T, cel l 282 #[rdV r, .int .i64 (N : Int)], SrcA r sv st i, EofA ea eT ef] (fun _ : Unit => .tuple #[.int .i64 (k : Int), .nilIface])
      (fun _ => [BuS rb (rdV r) n cv (xs ++ (st.drop i).take k) (T + k), SrcA r sv st (i + k), EofA ea eT ef]) := by
  have hm := mth285R (.pointer (some ⟨l, 0, none⟩))
  have hn := nil285 ⟨l, 0, none⟩
  refine Con.intro Tryz.func257 rfl (by kernel_rfl) Tryz.ntmps257 (Nat.le_of_ble_eq_true rfl) ?_
  intro F
  show JC _ _ _ _ _ _ [(0, _), (1, _)] _ [_, _, _, _, _]
  refine JC.as (A := BuS rb (rdV r) n cv xs T) (A' := Ex fun g : {g : BG // g.Ok xs T} => g.1.cells rb (rdV r) n cv) xpick (rfl) ?_
  refine JC.open xpick ?_
  rintro ⟨g, hg⟩
  show JC _ _ _ _ _ _ _ _ (_ :: _ :: _ :: _ :: _ :: _ :: _)
  refine sR ?_
  refine oC ?_
  refine oC ?_
  refine nC (sR ?_)
  refine oM ?_
  first | refine JO.py (Py.nil xe) ?_ | refine JO.py (Py.nilI xe) ?_
  refine JO.py (Py.fld fld131_2 xe xoff) ?_
  refine JO.store siz129 xe ev_const (by first | rfl | assumption) xpick xsize xnorm ?_
  refine nC (JC.block ?_)
  refine JC.bug (g := g) (rb := rb) (Rv := rdV r) (n := n) (cv := cv) (xs := xs) (T := T) (lr := 0) xpkE hg ?_
  refine JC.loop (ι := Nat) (fun j => j ≤ k) (fun j => [(0, .pointer (some ⟨rb, 1, none⟩)), (1, .iface 285 (.pointer (some ⟨l, 0, none⟩))), (4, .int .i64 (j : Int))]) (fun j => [BuS rb (rdV r) n cv (xs ++ (st.drop i).take j) (T + j), cel l 282 #[rdV r, .int .i64 ((N - j : Nat) : Int)], SrcA r sv st (i + j), EofA ea eT ef, F]) (fun j => N - j) 0 (Nat.zero_le _) xag (by simp only [List.take_zero, List.append_nil, Nat.add_zero, Nat.sub_zero]; exact xpkE) ?_
  rintro j base' hj
  obtain ⟨ys, hys⟩ : ∃ ys, xs ++ (st.drop i).take j = ys := ⟨_, rfl⟩
  rw [hys]
  refine JC.block (sR ?_)
  refine oM ?_
  refine JO.call (Evs.cons xe (Evs.cons ev_const Evs.nil)) (fGrow_con G rb (rdV r) cv n ys (T + j) (by omega)) xpkE ?_
  rintro ⟨⟨b, off, l2, c, lr, cur⟩, g1, g2, g3, g4, g5, g6⟩
  show JO _ _ _ _ _ _ _ ((13, _) :: _) _ (_ :: _ :: _ :: _)
  dsimp only at g1 g2 g3 g4 g5 g6 ⊢
  refine oA ?_
  refine nC (sR ?_)
  refine oM ?_
  refine oM ?_
  first | refine JO.py (Py.nil xe) ?_ | refine JO.py (Py.nilI xe) ?_
  refine JO.py (Py.fld fld131_0 xe xoff) ?_
  refine JO.py (Py.load scal22 xe xpick xrow) ?_
  refine oM ?_
  refine JO.py (Py.slc (l := 0) (h := l2) (p := 0) (q := l2) (c := c) Tryz.underlying22 siz5 xe Bd.none (Bd.some xe (by omega)) (by omega) (by omega) (by omega) (by omega) (by omega) (by omega)) ?_
  first | refine JO.py (Py.nil xe) ?_ | refine JO.py (Py.nilI xe) ?_
  refine JO.py (Py.fld fld131_0 xe xoff) ?_
  refine JO.store siz22 xe xe (by first | rfl | assumption) xpick xsize xnorm ?_
  refine nC (JC.seq ?_)
  refine JC.regionM [(0, true), (1, true), (2, true), (3, true), (4, true), (5, true), (6, true), (7, true), (8, true), (9, true), (10, true), (11, true), (12, true), (13, true), (14, true), (15, false), (16, true), (17, true), (18, true), (19, true), (20, true)] mixed (by kernel_rfl) ?_
  refine JM.py ao ⟨fun _ => Py.move xe⟩ ?_
  refine JM.py ao ⟨fun _ => Py.move xe⟩ ?_
  first | refine JM.py ao ⟨fun _ => Py.nil xe⟩ ?_ | refine JM.py ao ⟨fun _ => Py.nilI xe⟩ ?_
  refine JM.py ao ⟨fun _ => Py.fld fld131_0 xe xoff⟩ ?_
  refine JM.ld ao scal22 xe xpick xrow ?_
  refine JM.py ao ⟨fun _ => Py.move xe⟩ ?_
  refine JM.py ao ⟨fun _ => Py.move xe⟩ ?_
  first | refine JM.py ao ⟨fun _ => Py.nil xe⟩ ?_ | refine JM.py ao ⟨fun _ => Py.nilI xe⟩ ?_
  refine JM.py ao ⟨fun _ => Py.fld fld131_0 xe xoff⟩ ?_
  refine JM.ld ao scal22 xe xpick xrow ?_
  refine JM.py ao ⟨fun _ => Py.capS Tryz.underlying22 xe⟩ ?_
  refine JM.py ao ⟨fun _ => Py.slc (l := l2) (h := c) (p := l2) (q := c - l2) (c := c - l2) Tryz.underlying22 siz5 xe (Bd.some xe (by omega)) (Bd.some xe (by omega)) (by omega) (by omega) (by omega) (by omega) (by omega) (by omega)⟩ ?_
  refine JM.py ao ⟨fun _ => Py.mkM xe⟩ ?_
  refine JM.py ao ⟨fun _ => Py.nilM xe hn⟩ ?_
  refine JM.py ao ⟨fun _ => Py.move xe⟩ ?_
  by_cases hlt : j < k
  · skip
    have hk1 : min (N - j) (st.length - (i + j)) = k - j := by omega
    have htl : ((st.drop (i + j)).take (k - j)).length = k - j := by rw [List.length_take, List.length_drop]; omega
    have hR := g2.fill (ys := (st.drop (i + j)).take (k - j)) g1 (fun y hy => hst y (List.mem_of_mem_drop (List.mem_of_mem_take hy))) rfl (by omega)
    have hz := splice_size (ps := cur) (o := l2) (news := u8s ((st.drop (i + j)).take (k - j))) (by rw [u8s_len]; omega)
    refine JM.eff ao ?_
    refine JO.invoke xe (Evs.cons xe Evs.nil) (hm) (limK_con G r sv st hst (by omega) l (N - j) (i + j) b l2 (c - l2) (c - l2) (k - j) cur (by omega) (by omega) (by omega) (by omega) hk1) xpkE ?_
    rintro _
    show JO _ _ _ _ _ _ _ ((39, _) :: _) _ (_ :: _ :: _ :: _ :: _)
    refine JO.nil ?_
    refine JX.mix (Kept.drop (Forced.trans (q := 10) (Forced.step (by kernel_rfl)) (Forced.trans (q := 11) (Forced.step (by kernel_rfl)) (Forced.step (by kernel_rfl)))) (Kept.drop (Forced.trans (q := 11) (Forced.step (by kernel_rfl)) (Forced.step (by kernel_rfl))) Kept.nil)) ?_
    refine JM.py ao ⟨fun _ => Py.move xe⟩ ?_
    refine JM.py ao ⟨fun _ => Py.extrI xe xix⟩ ?_
    refine JM.py ao ⟨fun _ => Py.extrI xe xix⟩ ?_
    refine JM.py ao ⟨fun _ => Py.assign xe⟩ ?_
    refine JM.py ao ⟨fun _ => Py.assign xe⟩ ?_
    refine JM.nil (JX.code (JC.seq (sR ?_)))
    refine oM ?_
    first | refine oD (Py.lss xe ev_const) ?_ | refine oU (Py.lss xe ev_const) ?_ | refine JO.py (Py.lss xe ev_const) ?_
    refine nC ?_
    refine cF ?_
    refine JC.skip (JX.code (sR ?_))
    refine oM ?_
    refine oM ?_
    first | refine JO.py (Py.nil xe) ?_ | refine JO.py (Py.nilI xe) ?_
    refine JO.py (Py.fld fld131_0 xe xoff) ?_
    refine JO.py (Py.load scal22 xe xpick xrow) ?_
    refine oM ?_
    refine oM ?_
    refine JO.py (Py.add xe xe wI) ?_
    refine JO.py (Py.slc (l := 0) (h := l2 + (k - j)) (p := 0) (q := l2 + (k - j)) (c := c) Tryz.underlying22 siz5 xe Bd.none (Bd.some xe (by omega)) (by omega) (by omega) (by omega) (by omega) (by omega) (by omega)) ?_
    first | refine JO.py (Py.nil xe) ?_ | refine JO.py (Py.nilI xe) ?_
    refine JO.py (Py.fld fld131_0 xe xoff) ?_
    refine JO.store siz22 xe xe (by first | rfl | assumption) xpick xsize xnorm ?_
    refine nC (sR ?_)
    refine oM ?_
    refine oM ?_
    refine JO.py (Py.add xe xe wI) ?_
    refine oA ?_
    refine nC (JC.seq (sR ?_))
    refine oM ?_
    refine JO.py (Py.load scal70 ev_glob xpick xrow) ?_
    refine JO.py (Py.eqlNH Tryz.underlying70 xe xe) ?_
    refine nC ?_
    refine cF ?_
    refine JC.skip (JX.code (sR ?_))
    refine oM ?_
    first | refine JO.py (Py.neqNil Tryz.underlying70 xe rfl) ?_ | refine JO.py (Py.neqHeld Tryz.underlying70 xe rfl) ?_
    refine nC ?_
    refine cF ?_
    refine JC.skip (JX.blockN ?_)
    refine JX.bus (rb := rb) (Rv := rdV r) (n := n) (cv := cv) (xs := xs ++ (st.drop i).take (j + (k - j))) (T := T + (j + (k - j))) (b := b) (off := off) (l := l2 + (k - j)) (c := c) (lr := lr) (cur := splice cur l2 (u8s ((st.drop (i + j)).take (k - j)))) xpkE (by rw [← take_more, hys, List.length_append, htl]; omega) (by rw [← take_more, hys]; exact hR) (by rw [hz]; exact g3) (by omega) (by omega) g5 (by omega) ?_
    rw [show i + j + (k - j) = i + (j + (k - j)) by omega, show N - j - (k - j) = N - (j + (k - j)) by omega]
    refine JX.loop (j + (k - j)) (by omega) (by omega) xag xpkE
  · skip
    obtain rfl : j = k := by omega
    refine JM.eff ao ?_
    refine JO.invoke xe (Evs.cons xe Evs.nil) (hm) (limE_con G r sv st l (N - j) (i + j) b l2 (c - l2) (c - l2) (by omega) (by omega) (by omega) ea eT ef) xpkE ?_
    rintro _
    show JO _ _ _ _ _ _ _ ((39, _) :: _) _ (_ :: _ :: _ :: _ :: _)
    refine JO.nil ?_
    refine JX.mix (Kept.drop (Forced.trans (q := 10) (Forced.step (by kernel_rfl)) (Forced.trans (q := 11) (Forced.step (by kernel_rfl)) (Forced.step (by kernel_rfl)))) (Kept.drop (Forced.trans (q := 11) (Forced.step (by kernel_rfl)) (Forced.step (by kernel_rfl))) Kept.nil)) ?_
    refine JM.py ao ⟨fun _ => Py.move xe⟩ ?_
    refine JM.py ao ⟨fun _ => Py.extrI xe xix⟩ ?_
    refine JM.py ao ⟨fun _ => Py.extrI xe xix⟩ ?_
    refine JM.py ao ⟨fun _ => Py.assign xe⟩ ?_
    refine JM.py ao ⟨fun _ => Py.assign xe⟩ ?_
    refine JM.nil (JX.code (JC.seq (sR ?_)))
    refine oM ?_
    first | refine oD (Py.lss xe ev_const) ?_ | refine oU (Py.lss xe ev_const) ?_ | refine JO.py (Py.lss xe ev_const) ?_
    refine nC ?_
    refine cF ?_
    refine JC.skip (JX.code (sR ?_))
    refine oM ?_
    refine oM ?_
    first | refine JO.py (Py.nil xe) ?_ | refine JO.py (Py.nilI xe) ?_
    refine JO.py (Py.fld fld131_0 xe xoff) ?_
    refine JO.py (Py.load scal22 xe xpick xrow) ?_
    refine oM ?_
    refine oM ?_
    refine JO.py (Py.add xe xe wI) ?_
    refine JO.py (Py.slc (l := 0) (h := l2) (p := 0) (q := l2) (c := c) Tryz.underlying22 siz5 xe Bd.none (Bd.some xe (by omega)) (by omega) (by omega) (by omega) (by omega) (by omega) (by omega)) ?_
    first | refine JO.py (Py.nil xe) ?_ | refine JO.py (Py.nilI xe) ?_
    refine JO.py (Py.fld fld131_0 xe xoff) ?_
    refine JO.store siz22 xe xe (by first | rfl | assumption) xpick xsize xnorm ?_
    refine nC (sR ?_)
    refine oM ?_
    refine oM ?_
    refine JO.py (Py.add xe xe wI) ?_
    refine oA ?_
    refine nC (JC.seq (sR ?_))
    refine oM ?_
    refine JO.py (Py.load scal70 ev_glob xpick xrow) ?_
    refine JO.py (Py.eqlSame Tryz.underlying70 comp215 Tryz.underlying215 siz217 xe xe) ?_
    refine nC ?_
    refine cT ?_
    refine sR ?_
    refine oM ?_
    refine oA ?_
    refine oC ?_
    refine nC (JC.ret (JX.ret (JX.blockR (JX.ret (JX.blockR ?_)))))
    refine JX.bus (rb := rb) (Rv := rdV r) (n := n) (cv := cv) (xs := xs ++ (st.drop i).take j) (T := T + j) (b := b) (off := off) (l := l2) (c := c) (lr := lr) (cur := cur) xpkE (by rw [hys]; exact g1) (by rw [hys]; exact g2) g3 (by omega) (by omega) g5 g6 ?_
    refine JX.end2 (Or.inl rfl) (()) Tryz.results257 (tup2 ((xe).trans (by first | exact xval | (dsimp only; exact xval))) ((xe).trans (by first | exact xval | (dsimp only; exact xval)))) xpkE
theorem wt285 : (Tryz.prog.info? 285).map (fun i => (lacking #[("WriteTo", 378)] i.methods).isEmpty) = some false := by kernel_rfl
theorem rf106 : (Tryz.prog.info? 106).map (fun i => (lacking #[("ReadFrom", 382)] i.methods).isEmpty) = some true := by kernel_rfl
theorem zero376 : (Tryz.prog.info? 376).map (·.zero) = some (some .nilIface) := by kernel_rfl
theorem mth106F (p : Value) : Mth Tryz.prog 106 p "ReadFrom" 257 p := fun w => by kernel_rfl
theorem copyBuf_con (G : Gst) (rb : Nat) (cv : Value) (n r : Nat) (sv : Value) (st : List Nat) (hst : ∀ x ∈ st, x < 256) (xs : List Nat) (l N i T k : Nat) (hN : N ≤ 512) (hi : i ≤ st.length) (hT : T + N ≤ 90000) (hsl : st.length ≤ 60000) (hk : min N (st.length - i) = k) (ea : Addr) (eT : TypeId) (ef : Nat × Nat) :
    Con Tryz.prog G 230 #[.iface 106 (.pointer (some ⟨rb, 1, none⟩)), .iface 285 (.pointer (some ⟨l, 0, none⟩)), .slice none 0 0] [BuS rb (rdV r) n cv xs T, cel l 282 #[rdV r, .int .i64 (N : Int)], SrcA r sv st i, EofA ea eT ef] (fun _ : Unit => .tuple #[.int .i64 (k : Int), .nilIface])
      (fun _ => [BuS rb (rdV r) n cv (xs ++ (st.drop i).take k) (T + k), SrcA r sv st (i + k), EofA ea eT ef]) := by
  have hm := mth106F (.pointer (some ⟨rb, 1, none⟩))
  refine Con.intro Tryz.func230 rfl (by kernel_rfl) Tryz.ntmps230 (Nat.le_of_ble_eq_true rfl) ?_
  intro F
  show JC _ _ _ _ _ _ [(0, _), (1, _), (2, _)] _ [_, _, _, _, _]
  refine sR ?_
  refine oC ?_
  refine oC ?_
  refine nC (JC.seq (sR ?_))
  refine oM ?_
  refine JO.py (Py.asN Tryz.underlying376 wt285 zero376 xe) ?_
  refine oM ?_
  refine JO.py (Py.extrI xe xix) ?_
  refine JO.py (Py.extrI xe xix) ?_
  refine oA ?_
  refine oA ?_
  refine nC (sR ?_)
  refine oM ?_
  refine nC ?_
  refine cF ?_
  refine JC.skip (JX.code (JC.seq (sR ?_)))
  refine oM ?_
  refine JO.py (Py.asI Tryz.underlying380 rf106 xe) ?_
  refine oM ?_
  refine JO.py (Py.extrI xe xix) ?_
  refine JO.py (Py.extrI xe xix) ?_
  refine oA ?_
  refine oA ?_
  refine nC (sR ?_)
  refine oM ?_
  refine nC ?_
  refine cT ?_
  refine sR ?_
  refine oM ?_
  refine oM ?_
  refine JO.invoke xe (Evs.cons xe Evs.nil) (hm) (readFrom_con G rb cv n r sv st hst xs l N i T k hN hi hT hsl hk ea eT ef) xpkE ?_
  rintro _
  show JO _ _ _ _ _ _ _ ((38, _) :: _) _ (_ :: _ :: _ :: _ :: _)
  refine JO.py (Py.extrI xe xix) ?_
  refine JO.py (Py.extrI xe xix) ?_
  refine oA ?_
  refine oA ?_
  refine nC (JC.ret (JX.ret ?_))
  refine JX.end2 (Or.inl rfl) (()) Tryz.results230 (tup2 ((xe).trans (by first | exact xval | (dsimp only; exact xval))) ((xe).trans (by first | exact xval | (dsimp only; exact xval)))) xpkE
theorem copy_con (G : Gst) (rb : Nat) (cv : Value) (n r : Nat) (sv : Value) (st : List Nat) (hst : ∀ x ∈ st, x < 256) (xs : List Nat) (l N i T k : Nat) (hN : N ≤ 512) (hi : i ≤ st.length) (hT : T + N ≤ 90000) (hsl : st.length ≤ 60000) (hk : min N (st.length - i) = k) (ea : Addr) (eT : TypeId) (ef : Nat × Nat) :
    Con Tryz.prog G 229 #[.iface 106 (.pointer (some ⟨rb, 1, none⟩)), .iface 285 (.pointer (some ⟨l, 0, none⟩))] [BuS rb (rdV r) n cv xs T, cel l 282 #[rdV r, .int .i64 (N : Int)], SrcA r sv st i, EofA ea eT ef] (fun _ : Unit => .tuple #[.int .i64 (k : Int), .nilIface])
      (fun _ => [BuS rb (rdV r) n cv (xs ++ (st.drop i).take k) (T + k), SrcA r sv st (i + k), EofA ea eT ef]) := by
  refine Con.intro Tryz.func229 rfl (by kernel_rfl) Tryz.ntmps229 (Nat.le_of_ble_eq_true rfl) ?_
  intro F
  show JC _ _ _ _ _ _ [(0, _), (1, _)] _ [_, _, _, _, _]
  refine sR ?_
  refine oC ?_
  refine oC ?_
  refine nC (sR ?_)
  refine oM ?_
  refine oM ?_
  refine JO.call (Evs.cons xe (Evs.cons xe (Evs.cons ev_const Evs.nil))) (copyBuf_con G rb cv n r sv st hst xs l N i T k hN hi hT hsl hk ea eT ef) xpkE ?_
  rintro _
  show JO _ _ _ _ _ _ _ ((8, _) :: _) _ (_ :: _ :: _ :: _ :: _)
  refine JO.py (Py.extrI xe xix) ?_
  refine JO.py (Py.extrI xe xix) ?_
  refine oA ?_
  refine oA ?_
  refine nC (JC.ret ?_)
  refine JX.end2 (Or.inl rfl) (()) Tryz.results229 (tup2 ((xe).trans (by first | exact xval | (dsimp only; exact xval))) ((xe).trans (by first | exact xval | (dsimp only; exact xval)))) xpkE
theorem copyN_con (G : Gst) (rb : Nat) (cv : Value) (n r : Nat) (sv : Value) (st : List Nat) (hst : ∀ x ∈ st, x < 256) (xs : List Nat) (N i T k : Nat) (hN : N ≤ 512) (hi : i ≤ st.length) (hT : T + N ≤ 90000) (hsl : st.length ≤ 60000) (hk : min N (st.length - i) = k) (ea : Addr) (eT : TypeId) (ef : Nat × Nat) :
    Con Tryz.prog G 227 #[.iface 106 (.pointer (some ⟨rb, 1, none⟩)), rdV r, .int .i64 (N : Int)] [BuS rb (rdV r) n cv xs T, SrcA r sv st i, EofA ea eT ef] (fun _ : Unit => .tuple #[.int .i64 (k : Int), if k = N then .nilIface else eofV ea])
      (fun _ => [BuS rb (rdV r) n cv (xs ++ (st.drop i).take k) (T + k), SrcA r sv st (i + k), EofA ea eT ef]) := by
  refine Con.intro Tryz.func227 rfl (by kernel_rfl) Tryz.ntmps227 (Nat.le_of_ble_eq_true rfl) ?_
  intro F
  show JC _ _ _ _ _ _ [(0, _), (1, _), (2, _)] _ [_, _, _, _]
  refine sR ?_
  refine oC ?_
  refine oC ?_
  refine nC (sR ?_)
  refine oM ?_
  refine oM ?_
  refine oM ?_
  refine JO.call (Evs.cons xe (Evs.cons xe Evs.nil)) (limReader_con G (rdV r) (N : Int) rfl) xpkE ?_
  rintro l
  show JO _ _ _ _ _ _ _ ((12, _) :: _) _ (_ :: _ :: _)
  refine JO.call (Evs.cons xe (Evs.cons xe Evs.nil)) (copy_con G rb cv n r sv st hst xs l N i T k hN hi hT hsl hk ea eT ef) xpkE ?_
  rintro _
  show JO _ _ _ _ _ _ _ ((13, _) :: _) _ (_ :: _ :: _ :: _ :: _)
  by_cases h : k = N
  · skip
    rw [if_pos h]
    refine oM ?_
    refine JO.py (Py.extrI xe xix) ?_
    refine JO.py (Py.extrI xe xix) ?_
    refine oA ?_
    refine oA ?_
    refine nC (JC.seq (sR ?_))
    refine oM ?_
    refine oM ?_
    first | refine oD (Py.eql xe xe) ?_ | refine oU (Py.eql xe xe) ?_ | refine JO.py (Py.eql xe xe) ?_
    refine nC ?_
    refine cT ?_
    refine sR ?_
    refine oM ?_
    refine oA ?_
    refine oC ?_
    refine nC (JC.ret (JX.ret ?_))
    refine JX.end2 (Or.inl rfl) (()) Tryz.results227 (tup2 ((xe).trans (by first | exact xval | (dsimp only; exact xval))) ((xe).trans (by first | exact xval | (dsimp only; exact xval)))) xpkE
  · skip
    rw [if_neg h]
    refine oM ?_
    refine JO.py (Py.extrI xe xix) ?_
    refine JO.py (Py.extrI xe xix) ?_
    refine oA ?_
    refine oA ?_
    refine nC (JC.seq (sR ?_))
    refine oM ?_
    refine oM ?_
    first | refine oD (Py.eql xe xe) ?_ | refine oU (Py.eql xe xe) ?_ | refine JO.py (Py.eql xe xe) ?_
    refine nC ?_
    refine cF ?_
    refine JC.skip (JX.code (JC.seq (sR ?_)))
    refine oM ?_
    refine oM ?_
    first | refine oD (Py.lss xe xe) ?_ | refine oU (Py.lss xe xe) ?_ | refine JO.py (Py.lss xe xe) ?_
    refine oM ?_
    first | (refine gT ?_; (refine oM ?_)) | refine kF ?_ | refine JO.skipU rfl (Lk.ev (v := undef) xlk rfl) ?_
    first | (refine gT ?_; (first | refine JO.py (Py.eqlNil Tryz.underlying70 xe rfl) ?_ | refine JO.py (Py.eqlHeld Tryz.underlying70 xe rfl) ?_)) | refine kF ?_ | refine JO.skipU rfl (Lk.ev (v := undef) xlk rfl) ?_
    first | refine JO.py (Py.pickT xe xe) ?_ | refine JO.py (Py.pickF xe ev_const) ?_
    refine nC ?_
    refine cT ?_
    refine JC.region ?_
    refine JO.py (Py.load scal70 ev_glob xpick xrow) ?_
    refine oA ?_
    refine nC (JC.ret ?_)
    refine JX.end2 (Or.inl rfl) (()) Tryz.results227 (tup2 ((xe).trans (by first | exact xval | (dsimp only; exact xval))) ((xe).trans (by first | exact xval | (dsimp only; exact xval)))) xpkE
end Go.Proofs.YtfpepghmbeoanaaGreatDoor
end
