/-
A chunk's bytes, one by one.
Headers of chunks.
A chunk's header is read.
Headers of chunks, read off the stream.
Chunks that are not packed.
-/
import Derived.Test.YtfpepghmbeoanaaGreatDoorQ09
import Derived.Test.YtfpepghmbeoanaaGreatDoorQ08
set_option linter.unusedSimpArgs false
set_option linter.unusedVariables false
section
open Go Go.RowKit
namespace Go.Proofs.YtfpepghmbeoanaaGreatDoor
open Lz
/-- A chunk's bytes: behind them 'after'. -/
structure CkS where
  Z : ZP
  br : Nat
  l : Nat
  pb : Nat
  after : List Nat
abbrev CkS.cells (X : CkS) (n i : Nat) (v : Value) : List Asn := [cel X.br 276 #[.iface 285 (.pointer (some ⟨X.l, 0, none⟩)), .slice (some ⟨X.pb, 0, none⟩) 1 1], cel X.l 282 #[X.Z.v, .int .i64 (n : Int)], X.Z.A i, cel X.pb 5 #[v]]
def CkS.A (X : CkS) (rest : List Nat) : Asn := Ex fun g : {g : Nat × Value // X.Z.stream.drop g.1 = rest ++ X.after} => X.cells rest.length g.1.1 g.1.2
theorem drop_cons {all r : List Nat} {i x : Nat} (h : all.drop i = x :: r) : i < all.length ∧ all.getD i 0 = x ∧ all.drop (i + 1) = r := by
  have hlt : i < all.length := by
    rcases Nat.lt_or_ge i all.length with h' | h'
    · exact h'
    · rw [List.drop_eq_nil_of_le h'] at h; cases h
  refine ⟨hlt, ?_, ?_⟩
  · have := congrArg (·[0]?) h
    simp only [List.getElem?_drop, Nat.add_zero, List.getElem?_cons_zero] at this
    rw [List.getD_eq_getElem?_getD, this]; rfl
  · have := congrArg (List.drop 1) h
    simpa [List.drop_drop] using this
theorem drop_len {all r : List Nat} {i : Nat} (h : all.drop i = r) (hr : r ≠ []) : i + r.length = all.length := by
  have h1 := congrArg List.length h
  rw [List.length_drop] at h1
  have : r.length ≠ 0 := fun e => hr (List.eq_nil_of_length_eq_zero e)
  omega
theorem piece_one' {all : List Nat} {i x : Nat} {v : Value} (h : all.getD i 0 = x) : splice #[v] 0 (piece all i 1) = #[vu8 x] := by
  subst h
  simp [splice, piece]
theorem CkS.byte (G : Gst) (X : CkS) (hX : X.Z.Ok) (x : Nat) (rest : List Nat) (hx : x < 256) : Con Tryz.prog G 245 [.pointer (some ⟨X.br, 0, none⟩)].toArray [X.A (x :: rest)] (fun _ : Unit => .tuple #[vu8 x, .nilIface]) (fun _ => [X.A rest]) := by
  obtain ⟨Z, br, l, pb, after⟩ := X
  dsimp only at hX
  have hm := mth285R (.pointer (some ⟨l, 0, none⟩))
  have hsl := hX.sl
  refine Con.intro Tryz.func245 rfl (by kernel_rfl) Tryz.ntmps245 (Nat.le_of_ble_eq_true rfl) ?_
  intro F
  show JC _ _ _ _ _ _ [(0, _)] _ [_, _]
  refine JC.as (A := CkS.A ⟨Z, br, l, pb, after⟩ (x :: rest)) (A' := Ex fun g : {g : Nat × Value // Z.stream.drop g.1 = (x :: rest) ++ after} => CkS.cells ⟨Z, br, l, pb, after⟩ (rest.length + 1) g.1.1 g.1.2) xpick (rfl) ?_
  refine JC.open xpick ?_
  rintro ⟨⟨i, v⟩, hd⟩
  show JC _ _ _ _ _ _ _ _ (_ :: _ :: _ :: _ :: _ :: _)
  dsimp only at hd ⊢
  obtain ⟨hlt, hg, hd2⟩ := drop_cons hd
  have hlen := drop_len hd (by simp)
  simp only [List.length_cons, List.length_append] at hlen
  have hpo := piece_one' (v := v) hg
  have hrd := limRead_con G Z hX l 282 [] (rest.length + 1) i pb 0 1 1 1 #[v] (by omega) (by omega) (by decide) (by simp) (by omega)
  rw [hpo, Nat.add_sub_cancel] at hrd
  refine sR ?_
  refine oC ?_
  refine oC ?_
  refine nC (JC.seq (sR ?_))
  refine oC ?_
  refine nC (JC.block ?_)
  refine JC.unroll 0 ?_
  refine JC.seq (sR ?_)
  refine oM ?_
  first | refine oD (Py.lss xe ev_const) ?_ | refine oU (Py.lss xe ev_const) ?_ | refine JO.py (Py.lss xe ev_const) ?_
  refine nC ?_
  refine cT ?_
  refine JC.skip (JX.code (JC.seq (JC.block (JC.seq ?_))))
  refine JC.regionM [(0, true), (1, true), (2, true), (3, true), (4, true), (5, true), (6, true), (7, true), (8, true), (9, true), (10, false), (11, true), (12, true), (13, true), (14, true), (15, true)] mixed (by kernel_rfl) ?_
  refine JM.py ao ⟨fun _ => Py.move xe⟩ ?_
  first | refine JM.py ao ⟨fun _ => Py.nil xe⟩ ?_ | refine JM.py ao ⟨fun _ => Py.nilI xe⟩ ?_
  refine JM.py ao ⟨fun _ => Py.fld fld276_0 xe xoff⟩ ?_
  refine JM.ld ao scal113 xe xpick xrow ?_
  refine JM.py ao ⟨fun _ => Py.move xe⟩ ?_
  first | refine JM.py ao ⟨fun _ => Py.nil xe⟩ ?_ | refine JM.py ao ⟨fun _ => Py.nilI xe⟩ ?_
  refine JM.py ao ⟨fun _ => Py.fld fld276_1 xe xoff⟩ ?_
  refine JM.ld ao scal22 xe xpick xrow ?_
  first | refine JM.py ao ⟨fun _ => Py.nil xe⟩ ?_ | refine JM.py ao ⟨fun _ => Py.nilI xe⟩ ?_
  refine JM.py ao ⟨fun _ => Py.move xe⟩ ?_
  refine JM.eff ao ?_
  refine JO.invoke xe (Evs.cons xe Evs.nil) (hm) hrd xpkE ?_
  rintro _
  show JO _ _ _ _ _ _ _ ((22, _) :: _) _ (_ :: _ :: _ :: _ :: _)
  refine JO.nil ?_
  refine JX.mix (Kept.drop (Forced.step (by kernel_rfl)) (Kept.drop (Forced.trans (q := 9) (Forced.step (by kernel_rfl)) (Forced.step (by kernel_rfl))) Kept.nil)) ?_
  refine JM.py ao ⟨fun _ => Py.move xe⟩ ?_
  refine JM.py ao ⟨fun _ => Py.extrI xe xix⟩ ?_
  refine JM.py ao ⟨fun _ => Py.extrI xe xix⟩ ?_
  refine JM.py ao ⟨fun _ => Py.assign xe⟩ ?_
  refine JM.py ao ⟨fun _ => Py.assign xe⟩ ?_
  refine JM.nil (JX.code (JC.seq (sR ?_)))
  refine oM ?_
  first | refine oD (Py.gtr xe ev_const) ?_ | refine oU (Py.gtr xe ev_const) ?_ | refine JO.py (Py.gtr xe ev_const) ?_
  refine nC ?_
  refine cT ?_
  refine sR ?_
  refine oM ?_
  first | refine JO.py (Py.nil xe) ?_ | refine JO.py (Py.nilI xe) ?_
  refine JO.py (Py.fld fld276_1 xe xoff) ?_
  refine JO.py (Py.load scal22 xe xpick xrow) ?_
  refine JO.py (Py.idxS Tryz.underlying22 siz5 xe ev_const (by omega) xidx xmult) ?_
  refine JO.py (Py.load scal5 xe xpick xrow) ?_
  refine oA ?_
  refine oC ?_
  refine nC (JC.ret (JX.ret (JX.blockR (JX.ret (JX.ret (JX.blockR (JX.ret ?_)))))))
  refine JX.shut (f := fun g : {g : Nat × Value // Z.stream.drop g.1 = rest ++ after} => CkS.cells ⟨Z, br, l, pb, after⟩ rest.length g.1.1 g.1.2) ⟨(i + 1, vu8 x), hd2⟩ xpicks ?_
  refine JX.as (A := Ex fun g : {g : Nat × Value // Z.stream.drop g.1 = rest ++ after} => CkS.cells ⟨Z, br, l, pb, after⟩ rest.length g.1.1 g.1.2) (A' := CkS.A ⟨Z, br, l, pb, after⟩ rest) xpick (rfl) ?_
  refine JX.end2 (Or.inl rfl) (()) Tryz.results245 (tup2 ((xe).trans (by first | exact xval | (dsimp only; exact xval))) ((xe).trans (by first | exact xval | (dsimp only; exact xval)))) xpkE
def CkS.src (G : Gst) (X : CkS) (hX : X.Z.Ok) : ByteSrc G := { t := 274, u := .pointer (some ⟨X.br, 0, none⟩), f := 245, rcv := .pointer (some ⟨X.br, 0, none⟩), A := X.A, m := mth274B _, con := X.byte G hX }
theorem limReader_con (G : Gst) (R : Value) (N : Int) (hR : R.oneCell' = true) : Con Tryz.prog G 85 #[R, .int .i64 N] [] (fun l : Nat => .iface 285 (.pointer (some ⟨l, 0, none⟩))) (fun l => [cel l 282 #[R, .int .i64 N]]) := by
  refine Con.intro Tryz.func85 rfl (by kernel_rfl) Tryz.ntmps85 (Nat.le_of_ble_eq_true rfl) ?_
  intro F
  show JC _ _ _ _ _ _ [(0, _), (1, _)] _ [_]
  refine sR ?_
  refine oC ?_
  refine nC (sR ?_)
  refine oM ?_
  refine oM ?_
  refine JO.py (Py.build bld282 (Pts.cons xe (Pts.cons xe Pts.nil)) xfl) ?_
  refine JO.boxA xe ?_; intro b8
  refine JO.py (Py.mki mki285 xe) ?_
  refine oA ?_
  refine nC (JC.ret ?_)
  refine JX.end1 (Or.inl rfl) (b8) Tryz.results85 ((xe).trans (by first | exact xval | (dsimp only; exact xval))) xpkE
theorem byteRdW_con (G : Gst) (p : Value) (hp : p.oneCell' = true) : Con Tryz.prog G 74 #[.iface 285 p] [] (fun x : Nat × Nat => .iface 274 (.pointer (some ⟨x.1, 0, none⟩))) (fun x => [cel x.1 276 #[.iface 285 p, .slice (some ⟨x.2, 0, none⟩) 1 1], cel x.2 5 #[.int .u8 0]]) := by
  refine Con.intro Tryz.func74 rfl (by kernel_rfl) Tryz.ntmps74 (Nat.le_of_ble_eq_true rfl) ?_
  intro F
  show JC _ _ _ _ _ _ [(0, _)] _ [_]
  refine sR ?_
  refine oC ?_
  refine nC (sR ?_)
  refine oM ?_
  refine JO.py (Py.asN Tryz.underlying169 br285 zero169 xe) ?_
  refine oM ?_
  refine JO.py (Py.extrI xe xix) ?_
  refine JO.py (Py.extrI xe xix) ?_
  refine oA ?_
  refine oA ?_
  refine nC (JC.seq (sR ?_))
  refine oM ?_
  refine JO.py (Py.not xe (by first | with_reducible exact not_t | with_reducible exact not_f | exact rfl)) ?_
  refine nC ?_
  refine cT ?_
  refine sR ?_
  refine oM ?_
  refine JO.mkslice (m := 1) (c := 1) Tryz.underlying22 elm5 ev_const ev_const rfl rfl (by omega) (by omega) (by omega) ?_; intro b13
  refine JO.py (Py.build bld276 (Pts.cons xe (Pts.cons xe Pts.nil)) xfl) ?_
  refine JO.boxA xe ?_; intro b15
  refine JO.py (Py.mki mki274 xe) ?_
  refine oA ?_
  refine nC (JC.ret (JX.ret ?_))
  refine JX.as (A := cel b13 5 (Array.replicate 1 (Value.int .u8 0))) (A' := cel b13 5 #[.int .u8 0]) xpick (rfl) ?_
  refine JX.end1 (Or.inl rfl) ((b15, b13)) Tryz.results74 ((xe).trans (by first | exact xval | (dsimp only; exact xval))) xpkE
theorem newUr_con (G : Gst) (R : Value) (dd : Nat) (N : Int) (hR : R.oneCell' = true) : Con Tryz.prog G 84 #[R, .pointer (some ⟨dd, 0, none⟩), .int .i64 N] [] (fun u : Nat => .pointer (some ⟨u, 0, none⟩)) (fun u => [cel u 284 #[R, .int .i64 N, .pointer (some ⟨dd, 0, none⟩), .bool false, .nilIface]]) := by
  refine Con.intro Tryz.func84 rfl (by kernel_rfl) Tryz.ntmps84 (Nat.le_of_ble_eq_true rfl) ?_
  intro F
  show JC _ _ _ _ _ _ [(0, _), (1, _), (2, _)] _ [_]
  refine sR ?_
  refine oC ?_
  refine nC (sR ?_)
  refine oM ?_
  refine oM ?_
  refine JO.py (Py.build bld282 (Pts.cons xe (Pts.cons xe Pts.nil)) xfl) ?_
  refine oM ?_
  refine JO.py (Py.build bld284 (Pts.cons xe (Pts.cons xe Pts.nil)) xfl) ?_
  refine JO.boxA xe ?_; intro b13
  refine oA ?_
  refine nC (sR ?_)
  refine oM ?_
  refine oA ?_
  refine nC (JC.ret ?_)
  refine JX.end1 (Or.inl rfl) (b13) Tryz.results84 ((xe).trans (by first | exact xval | (dsimp only; exact xval))) xpkE
theorem urReopen_con (G : Gst) (u : Nat) (rt : TypeId) (rv R0 D e0 : Value) (N N0 : Int) (b0 : Bool) : Con Tryz.prog G 83 #[.pointer (some ⟨u, 0, none⟩), .iface rt rv, .int .i64 N] [cel u 284 #[R0, .int .i64 N0, D, .bool b0, e0]] (fun _ : Unit => .tuple #[]) (fun _ => [cel u 284 #[.iface rt rv, .int .i64 N, D, .bool false, .nilIface]]) := by
  refine Con.intro Tryz.func83 rfl (by kernel_rfl) Tryz.ntmps83 (Nat.le_of_ble_eq_true rfl) ?_
  intro F
  show JC _ _ _ _ _ _ [(0, _), (1, _), (2, _)] _ [_, _]
  refine sR ?_
  refine oM ?_
  first | refine JO.py (Py.nil xe) ?_ | refine JO.py (Py.nilI xe) ?_
  refine JO.py (Py.fld fld284_3 xe xoff) ?_
  refine JO.store siz70 xe ev_const (by first | rfl | assumption) xpick xsize xnorm ?_
  refine nC (sR ?_)
  refine oM ?_
  first | refine JO.py (Py.nil xe) ?_ | refine JO.py (Py.nilI xe) ?_
  refine JO.py (Py.fld fld284_2 xe xoff) ?_
  refine JO.store siz4 xe ev_const (by first | rfl | assumption) xpick xsize xnorm ?_
  refine nC (JC.region ?_)
  refine oM ?_
  refine oM ?_
  refine oM ?_
  refine JO.py (Py.build bld282 (Pts.cons xe (Pts.cons xe Pts.nil)) xfl) ?_
  first | refine JO.py (Py.nil xe) ?_ | refine JO.py (Py.nilI xe) ?_
  refine JO.py (Py.fld fld284_0 xe xoff) ?_
  refine JO.storeB (cs' := #[.iface rt rv, .int .i64 N, D, .bool false, .nilIface]) siz282 xe xe (by exact rfl) (by simp [Value.oneCell']) xpick (by exact Nat.le_of_ble_eq_true rfl) (by rfl) ?_
  refine JO.nil ?_
  refine JX.end0 (Or.inr rfl) (()) Tryz.results83 rfl xpkE
end Go.Proofs.YtfpepghmbeoanaaGreatDoor
end

section
open Go Go.RowKit
namespace Go.Proofs.YtfpepghmbeoanaaGreatDoor
open Lz
theorem u16BE_con (G : Gst) (b o m c : Nat) (T : TypeId) (fr : Nat × Nat) (cs : Array Value) (x y : Nat) (hm : 2 ≤ m) (hx : cs[o]? = some (vu8 x)) (hy : cs[o + 1]? = some (vu8 y)) (h1 : x < 256) (h2 : y < 256) :
    Con Tryz.prog G 107 #[.slice (some ⟨b, o, none⟩) m c] [blk b (.cells cs T fr)] (fun _ : Unit => .int .u16 ((x * 256 + y : Nat) : Int)) (fun _ => [blk b (.cells cs T fr)]) := by
  have ho := or_low (a := x) h2
  have hx' : cs[o + 0]? = some (vu8 x) := hx
  refine Con.intro Tryz.func107 rfl (by kernel_rfl) Tryz.ntmps107 (Nat.le_of_ble_eq_true rfl) ?_
  intro F
  show JC _ _ _ _ _ _ [(0, _)] _ [_, _]
  refine sR ?_
  refine oC ?_
  refine nC (JC.seq ?_)
  refine JC.regionD mixed (by kernel_rfl) ?_
  refine JD.py (Py.move xe) ?_
  refine JD.py (Py.idxS Tryz.underlying22 siz5 xe ev_const (by omega) xidx xmult) ?_
  refine JD.py (Py.load scal5 xe xpick xrow) ?_
  first | refine JD.py (Py.conv cnv5_61 xe (w_u16 (by omega))) ?_ | refine JD.py (Py.conv cnv5_61 xe (m_u16 _)) ?_
  first | refine JD.py (Py.shl 8 256 xe ev_const rfl (by decide) (by decide) (w_u16 (by omega))) ?_ | refine JD.py (Py.shl 8 256 xe ev_const rfl (by decide) (by decide) (m_u16 _)) ?_
  refine JD.py (Py.move xe) ?_
  refine JD.py (Py.idxS Tryz.underlying22 siz5 xe ev_const (by omega) xidx xmult) ?_
  refine JD.py (Py.load scal5 xe xpick xrow) ?_
  first | refine JD.py (Py.conv cnv5_61 xe (w_u16 (by omega))) ?_ | refine JD.py (Py.conv cnv5_61 xe (m_u16 _)) ?_
  refine JD.py (Py.to (Py.orN xe xe (r_u16 (by omega)) (r_u16 (by omega)) (by decide)) (v' := .int .u16 ((x * 256 + y : Nat) : Int)) (vint (by rw [show ((x : Int) * 256).toNat = x * 256 by omega, show ((y : Nat) : Int).toNat = y by omega, ho]))) ?_
  refine JD.py (Py.assign xe) ?_
  refine JD.nilN (JX.code (JC.ret ?_))
  refine JX.end1 (Or.inl rfl) (()) Tryz.results107 ((xe).trans (by first | exact xval | (dsimp only; exact xval))) xpkE
theorem hct0_con (G : Gst) : Con Tryz.prog G 97 #[.int .u8 0] [] (fun _ : Unit => .tuple #[.int .u8 0, .nilIface]) (fun _ => []) := by
  refine Con.intro Tryz.func97 rfl (by kernel_rfl) Tryz.ntmps97 (Nat.le_of_ble_eq_true rfl) ?_
  intro F
  show JC _ _ _ _ _ _ [(0, _)] _ [_]
  refine sR ?_
  refine oC ?_
  refine oC ?_
  refine nC (JC.seq (sR ?_))
  refine oM ?_
  refine JO.py (Py.to (Py.andN xe ev_const (r_u8 (by omega)) (r_u8 (by omega)) (by decide)) (v' := .int .u8 0) rfl) ?_
  first | refine oD (Py.eql xe ev_const) ?_ | refine oU (Py.eql xe ev_const) ?_ | refine JO.py (Py.eql xe ev_const) ?_
  refine nC ?_
  refine cT ?_
  refine JC.seq (sR ?_)
  refine oM ?_
  refine nC (JC.block (sR ?_))
  first | refine oD (Py.eql xe ev_const) ?_ | refine oU (Py.eql xe ev_const) ?_ | refine JO.py (Py.eql xe ev_const) ?_
  refine oA ?_
  refine nC ?_
  refine cT ?_
  refine JC.region ?_
  refine oC ?_
  refine JO.nil (JX.blockN (JX.code (JC.ret (JX.ret ?_))))
  refine JX.end2 (Or.inl rfl) (()) Tryz.results97 (tup2 ((xe).trans (by first | exact xval | (dsimp only; exact xval))) ((xe).trans (by first | exact xval | (dsimp only; exact xval)))) xpkE
theorem hct1_con (G : Gst) : Con Tryz.prog G 97 #[.int .u8 1] [] (fun _ : Unit => .tuple #[.int .u8 1, .nilIface]) (fun _ => []) := by
  refine Con.intro Tryz.func97 rfl (by kernel_rfl) Tryz.ntmps97 (Nat.le_of_ble_eq_true rfl) ?_
  intro F
  show JC _ _ _ _ _ _ [(0, _)] _ [_]
  refine sR ?_
  refine oC ?_
  refine oC ?_
  refine nC (JC.seq (sR ?_))
  refine oM ?_
  refine JO.py (Py.to (Py.andN xe ev_const (r_u8 (by omega)) (r_u8 (by omega)) (by decide)) (v' := .int .u8 0) rfl) ?_
  first | refine oD (Py.eql xe ev_const) ?_ | refine oU (Py.eql xe ev_const) ?_ | refine JO.py (Py.eql xe ev_const) ?_
  refine nC ?_
  refine cT ?_
  refine JC.seq (sR ?_)
  refine oM ?_
  refine nC (JC.block (sR ?_))
  first | refine oD (Py.eql xe ev_const) ?_ | refine oU (Py.eql xe ev_const) ?_ | refine JO.py (Py.eql xe ev_const) ?_
  refine oA ?_
  refine nC ?_
  refine cF ?_
  refine sR ?_
  first | refine oD (Py.eql xe ev_const) ?_ | refine oU (Py.eql xe ev_const) ?_ | refine JO.py (Py.eql xe ev_const) ?_
  refine oA ?_
  refine nC ?_
  refine cT ?_
  refine JC.region ?_
  refine oC ?_
  refine JO.nil (JX.blockN (JX.code (JC.ret (JX.ret ?_))))
  refine JX.end2 (Or.inl rfl) (()) Tryz.results97 (tup2 ((xe).trans (by first | exact xval | (dsimp only; exact xval))) ((xe).trans (by first | exact xval | (dsimp only; exact xval)))) xpkE
theorem hct6_con (G : Gst) : Con Tryz.prog G 97 #[.int .u8 224] [] (fun _ : Unit => .tuple #[.int .u8 6, .nilIface]) (fun _ => []) := by
  refine Con.intro Tryz.func97 rfl (by kernel_rfl) Tryz.ntmps97 (Nat.le_of_ble_eq_true rfl) ?_
  intro F
  show JC _ _ _ _ _ _ [(0, _)] _ [_]
  refine sR ?_
  refine oC ?_
  refine oC ?_
  refine nC (JC.seq (sR ?_))
  refine oM ?_
  refine JO.py (Py.to (Py.andN xe ev_const (r_u8 (by omega)) (r_u8 (by omega)) (by decide)) (v' := .int .u8 128) rfl) ?_
  first | refine oD (Py.eql xe ev_const) ?_ | refine oU (Py.eql xe ev_const) ?_ | refine JO.py (Py.eql xe ev_const) ?_
  refine nC ?_
  refine cF ?_
  refine JC.skip (JX.code (JC.seq (sR ?_)))
  refine oM ?_
  refine JO.py (Py.to (Py.andN xe ev_const (r_u8 (by omega)) (r_u8 (by omega)) (by decide)) (v' := .int .u8 224) rfl) ?_
  refine nC (JC.block (sR ?_))
  first | refine oD (Py.eql xe ev_const) ?_ | refine oU (Py.eql xe ev_const) ?_ | refine JO.py (Py.eql xe ev_const) ?_
  refine oA ?_
  refine nC ?_
  refine cF ?_
  refine sR ?_
  first | refine oD (Py.eql xe ev_const) ?_ | refine oU (Py.eql xe ev_const) ?_ | refine JO.py (Py.eql xe ev_const) ?_
  refine oA ?_
  refine nC ?_
  refine cF ?_
  refine sR ?_
  first | refine oD (Py.eql xe ev_const) ?_ | refine oU (Py.eql xe ev_const) ?_ | refine JO.py (Py.eql xe ev_const) ?_
  refine oA ?_
  refine nC ?_
  refine cF ?_
  refine sR ?_
  first | refine oD (Py.eql xe ev_const) ?_ | refine oU (Py.eql xe ev_const) ?_ | refine JO.py (Py.eql xe ev_const) ?_
  refine oA ?_
  refine nC ?_
  refine cT ?_
  refine JC.region ?_
  refine oC ?_
  refine JO.nil (JX.blockN (JX.code (JC.ret ?_)))
  refine JX.end2 (Or.inl rfl) (()) Tryz.results97 (tup2 ((xe).trans (by first | exact xval | (dsimp only; exact xval))) ((xe).trans (by first | exact xval | (dsimp only; exact xval)))) xpkE
theorem hl0_con (G : Gst) : Con Tryz.prog G 98 #[.int .u8 0] [] (fun _ : Unit => .int .i64 1) (fun _ => []) := by
  refine Con.intro Tryz.func98 rfl (by kernel_rfl) Tryz.ntmps98 (Nat.le_of_ble_eq_true rfl) ?_
  intro F
  show JC _ _ _ _ _ _ [(0, _)] _ [_]
  refine sR ?_
  refine oC ?_
  refine nC (JC.seq (sR ?_))
  refine oM ?_
  refine nC (JC.block (sR ?_))
  first | refine oD (Py.eql xe ev_const) ?_ | refine oU (Py.eql xe ev_const) ?_ | refine JO.py (Py.eql xe ev_const) ?_
  refine oA ?_
  refine nC ?_
  refine cT ?_
  refine sR ?_
  refine oC ?_
  refine nC (JC.ret (JX.blockR (JX.ret ?_)))
  refine JX.end1 (Or.inl rfl) (()) Tryz.results98 ((xe).trans (by first | exact xval | (dsimp only; exact xval))) xpkE
theorem hl1_con (G : Gst) : Con Tryz.prog G 98 #[.int .u8 1] [] (fun _ : Unit => .int .i64 3) (fun _ => []) := by
  refine Con.intro Tryz.func98 rfl (by kernel_rfl) Tryz.ntmps98 (Nat.le_of_ble_eq_true rfl) ?_
  intro F
  show JC _ _ _ _ _ _ [(0, _)] _ [_]
  refine sR ?_
  refine oC ?_
  refine nC (JC.seq (sR ?_))
  refine oM ?_
  refine nC (JC.block (sR ?_))
  first | refine oD (Py.eql xe ev_const) ?_ | refine oU (Py.eql xe ev_const) ?_ | refine JO.py (Py.eql xe ev_const) ?_
  refine oA ?_
  refine nC ?_
  refine cF ?_
  refine JC.seq (sR ?_)
  first | refine oD (Py.eql xe ev_const) ?_ | refine oU (Py.eql xe ev_const) ?_ | refine JO.py (Py.eql xe ev_const) ?_
  refine oA ?_
  refine nC ?_
  refine cF ?_
  refine JC.region ?_
  first | refine oD (Py.eql xe ev_const) ?_ | refine oU (Py.eql xe ev_const) ?_ | refine JO.py (Py.eql xe ev_const) ?_
  refine oA ?_
  refine nC ?_
  refine cT ?_
  refine sR ?_
  refine oC ?_
  refine nC (JC.ret (JX.blockR (JX.ret ?_)))
  refine JX.end1 (Or.inl rfl) (()) Tryz.results98 ((xe).trans (by first | exact xval | (dsimp only; exact xval))) xpkE
theorem hl6_con (G : Gst) : Con Tryz.prog G 98 #[.int .u8 6] [] (fun _ : Unit => .int .i64 6) (fun _ => []) := by
  refine Con.intro Tryz.func98 rfl (by kernel_rfl) Tryz.ntmps98 (Nat.le_of_ble_eq_true rfl) ?_
  intro F
  show JC _ _ _ _ _ _ [(0, _)] _ [_]
  refine sR ?_
  refine oC ?_
  refine nC (JC.seq (sR ?_))
  refine oM ?_
  refine nC (JC.block (sR ?_))
  first | refine oD (Py.eql xe ev_const) ?_ | refine oU (Py.eql xe ev_const) ?_ | refine JO.py (Py.eql xe ev_const) ?_
  refine oA ?_
  refine nC ?_
  refine cF ?_
  refine JC.seq (sR ?_)
  first | refine oD (Py.eql xe ev_const) ?_ | refine oU (Py.eql xe ev_const) ?_ | refine JO.py (Py.eql xe ev_const) ?_
  refine oA ?_
  refine nC ?_
  refine cF ?_
  refine JC.region ?_
  first | refine oD (Py.eql xe ev_const) ?_ | refine oU (Py.eql xe ev_const) ?_ | refine JO.py (Py.eql xe ev_const) ?_
  refine oA ?_
  refine nC ?_
  refine cF ?_
  refine JC.seq (sR ?_)
  first | refine oD (Py.eql xe ev_const) ?_ | refine oU (Py.eql xe ev_const) ?_ | refine JO.py (Py.eql xe ev_const) ?_
  refine oA ?_
  refine nC ?_
  refine cF ?_
  refine JC.region ?_
  first | refine oD (Py.eql xe ev_const) ?_ | refine oU (Py.eql xe ev_const) ?_ | refine JO.py (Py.eql xe ev_const) ?_
  refine oA ?_
  refine nC ?_
  refine cF ?_
  refine JC.seq (sR ?_)
  first | refine oD (Py.eql xe ev_const) ?_ | refine oU (Py.eql xe ev_const) ?_ | refine JO.py (Py.eql xe ev_const) ?_
  refine oA ?_
  refine nC ?_
  refine cF ?_
  refine JC.region ?_
  first | refine oD (Py.eql xe ev_const) ?_ | refine oU (Py.eql xe ev_const) ?_ | refine JO.py (Py.eql xe ev_const) ?_
  refine oA ?_
  refine nC ?_
  refine cT ?_
  refine sR ?_
  refine oC ?_
  refine nC (JC.ret (JX.blockR (JX.ret ?_)))
  refine JX.end1 (Or.inl rfl) (()) Tryz.results98 ((xe).trans (by first | exact xval | (dsimp only; exact xval))) xpkE
theorem next_83_0 (G : Gst) (rr : Nat) (a0 a1 a2 a3 a4 a5 : Value) : Con Tryz.prog G 80 #[.pointer (some ⟨rr, 6, none⟩), .int .u8 0] [cel rr 191 #[a0, a1, a2, a3, a4, a5, .int .u8 83]] (fun _ : Unit => .nilIface) (fun _ => [cel rr 191 #[a0, a1, a2, a3, a4, a5, .int .u8 84]]) := by
  refine Con.intro Tryz.func80 rfl (by kernel_rfl) Tryz.ntmps80 (Nat.le_of_ble_eq_true rfl) ?_
  intro F
  show JC _ _ _ _ _ _ [(0, _), (1, _)] _ [_, _]
  refine sR ?_
  refine oC ?_
  refine nC (JC.seq (sR ?_))
  refine oM ?_
  first | refine JO.py (Py.nil xe) ?_ | refine JO.py (Py.nilI xe) ?_
  refine JO.py (Py.load scal186 xe xpick xrow) ?_
  refine nC (JC.block (sR ?_))
  first | refine oD (Py.eql xe ev_const) ?_ | refine oU (Py.eql xe ev_const) ?_ | refine JO.py (Py.eql xe ev_const) ?_
  refine oA ?_
  refine nC ?_
  refine cT ?_
  refine sR ?_
  refine oM ?_
  refine nC (JC.block (sR ?_))
  first | refine oD (Py.eql xe ev_const) ?_ | refine oU (Py.eql xe ev_const) ?_ | refine JO.py (Py.eql xe ev_const) ?_
  refine oA ?_
  refine nC ?_
  refine cT ?_
  refine JC.region ?_
  refine oM ?_
  first | refine JO.py (Py.nil xe) ?_ | refine JO.py (Py.nilI xe) ?_
  refine JO.store siz186 xe ev_const (by first | rfl | assumption) xpick xsize xnorm ?_
  refine JO.nil (JX.blockN (JX.blockN (JX.code (sR ?_))))
  refine oC ?_
  refine nC (JC.ret ?_)
  refine JX.end1 (Or.inl rfl) (()) Tryz.results80 ((xe).trans (by first | exact xval | (dsimp only; exact xval))) xpkE
theorem next_83_1 (G : Gst) (rr : Nat) (a0 a1 a2 a3 a4 a5 : Value) : Con Tryz.prog G 80 #[.pointer (some ⟨rr, 6, none⟩), .int .u8 1] [cel rr 191 #[a0, a1, a2, a3, a4, a5, .int .u8 83]] (fun _ : Unit => .nilIface) (fun _ => [cel rr 191 #[a0, a1, a2, a3, a4, a5, .int .u8 82]]) := by
  refine Con.intro Tryz.func80 rfl (by kernel_rfl) Tryz.ntmps80 (Nat.le_of_ble_eq_true rfl) ?_
  intro F
  show JC _ _ _ _ _ _ [(0, _), (1, _)] _ [_, _]
  refine sR ?_
  refine oC ?_
  refine nC (JC.seq (sR ?_))
  refine oM ?_
  first | refine JO.py (Py.nil xe) ?_ | refine JO.py (Py.nilI xe) ?_
  refine JO.py (Py.load scal186 xe xpick xrow) ?_
  refine nC (JC.block (sR ?_))
  first | refine oD (Py.eql xe ev_const) ?_ | refine oU (Py.eql xe ev_const) ?_ | refine JO.py (Py.eql xe ev_const) ?_
  refine oA ?_
  refine nC ?_
  refine cT ?_
  refine sR ?_
  refine oM ?_
  refine nC (JC.block (sR ?_))
  first | refine oD (Py.eql xe ev_const) ?_ | refine oU (Py.eql xe ev_const) ?_ | refine JO.py (Py.eql xe ev_const) ?_
  refine oA ?_
  refine nC ?_
  refine cF ?_
  refine sR ?_
  first | refine oD (Py.eql xe ev_const) ?_ | refine oU (Py.eql xe ev_const) ?_ | refine JO.py (Py.eql xe ev_const) ?_
  refine oA ?_
  refine nC ?_
  refine cT ?_
  refine JC.region ?_
  refine oM ?_
  first | refine JO.py (Py.nil xe) ?_ | refine JO.py (Py.nilI xe) ?_
  refine JO.store siz186 xe ev_const (by first | rfl | assumption) xpick xsize xnorm ?_
  refine JO.nil (JX.blockN (JX.blockN (JX.code (sR ?_))))
  refine oC ?_
  refine nC (JC.ret ?_)
  refine JX.end1 (Or.inl rfl) (()) Tryz.results80 ((xe).trans (by first | exact xval | (dsimp only; exact xval))) xpkE
theorem next_83_6 (G : Gst) (rr : Nat) (a0 a1 a2 a3 a4 a5 : Value) : Con Tryz.prog G 80 #[.pointer (some ⟨rr, 6, none⟩), .int .u8 6] [cel rr 191 #[a0, a1, a2, a3, a4, a5, .int .u8 83]] (fun _ : Unit => .nilIface) (fun _ => [cel rr 191 #[a0, a1, a2, a3, a4, a5, .int .u8 76]]) := by
  refine Con.intro Tryz.func80 rfl (by kernel_rfl) Tryz.ntmps80 (Nat.le_of_ble_eq_true rfl) ?_
  intro F
  show JC _ _ _ _ _ _ [(0, _), (1, _)] _ [_, _]
  refine sR ?_
  refine oC ?_
  refine nC (JC.seq (sR ?_))
  refine oM ?_
  first | refine JO.py (Py.nil xe) ?_ | refine JO.py (Py.nilI xe) ?_
  refine JO.py (Py.load scal186 xe xpick xrow) ?_
  refine nC (JC.block (sR ?_))
  first | refine oD (Py.eql xe ev_const) ?_ | refine oU (Py.eql xe ev_const) ?_ | refine JO.py (Py.eql xe ev_const) ?_
  refine oA ?_
  refine nC ?_
  refine cT ?_
  refine sR ?_
  refine oM ?_
  refine nC (JC.block (sR ?_))
  first | refine oD (Py.eql xe ev_const) ?_ | refine oU (Py.eql xe ev_const) ?_ | refine JO.py (Py.eql xe ev_const) ?_
  refine oA ?_
  refine nC ?_
  refine cF ?_
  refine sR ?_
  first | refine oD (Py.eql xe ev_const) ?_ | refine oU (Py.eql xe ev_const) ?_ | refine JO.py (Py.eql xe ev_const) ?_
  refine oA ?_
  refine nC ?_
  refine cF ?_
  refine sR ?_
  first | refine oD (Py.eql xe ev_const) ?_ | refine oU (Py.eql xe ev_const) ?_ | refine JO.py (Py.eql xe ev_const) ?_
  refine oA ?_
  refine nC ?_
  refine cT ?_
  refine JC.region ?_
  refine oM ?_
  first | refine JO.py (Py.nil xe) ?_ | refine JO.py (Py.nilI xe) ?_
  refine JO.store siz186 xe ev_const (by first | rfl | assumption) xpick xsize xnorm ?_
  refine JO.nil (JX.blockN (JX.blockN (JX.code (sR ?_))))
  refine oC ?_
  refine nC (JC.ret ?_)
  refine JX.end1 (Or.inl rfl) (()) Tryz.results80 ((xe).trans (by first | exact xval | (dsimp only; exact xval))) xpkE
theorem next_76_0 (G : Gst) (rr : Nat) (a0 a1 a2 a3 a4 a5 : Value) : Con Tryz.prog G 80 #[.pointer (some ⟨rr, 6, none⟩), .int .u8 0] [cel rr 191 #[a0, a1, a2, a3, a4, a5, .int .u8 76]] (fun _ : Unit => .nilIface) (fun _ => [cel rr 191 #[a0, a1, a2, a3, a4, a5, .int .u8 84]]) := by
  refine Con.intro Tryz.func80 rfl (by kernel_rfl) Tryz.ntmps80 (Nat.le_of_ble_eq_true rfl) ?_
  intro F
  show JC _ _ _ _ _ _ [(0, _), (1, _)] _ [_, _]
  refine sR ?_
  refine oC ?_
  refine nC (JC.seq (sR ?_))
  refine oM ?_
  first | refine JO.py (Py.nil xe) ?_ | refine JO.py (Py.nilI xe) ?_
  refine JO.py (Py.load scal186 xe xpick xrow) ?_
  refine nC (JC.block (sR ?_))
  first | refine oD (Py.eql xe ev_const) ?_ | refine oU (Py.eql xe ev_const) ?_ | refine JO.py (Py.eql xe ev_const) ?_
  refine oA ?_
  refine nC ?_
  refine cF ?_
  refine sR ?_
  first | refine oD (Py.eql xe ev_const) ?_ | refine oU (Py.eql xe ev_const) ?_ | refine JO.py (Py.eql xe ev_const) ?_
  refine oA ?_
  refine nC ?_
  refine cT ?_
  refine sR ?_
  refine oM ?_
  refine nC (JC.block (sR ?_))
  first | refine oD (Py.eql xe ev_const) ?_ | refine oU (Py.eql xe ev_const) ?_ | refine JO.py (Py.eql xe ev_const) ?_
  refine oA ?_
  refine nC ?_
  refine cT ?_
  refine JC.region ?_
  refine oM ?_
  first | refine JO.py (Py.nil xe) ?_ | refine JO.py (Py.nilI xe) ?_
  refine JO.store siz186 xe ev_const (by first | rfl | assumption) xpick xsize xnorm ?_
  refine JO.nil (JX.blockN (JX.blockN (JX.code (sR ?_))))
  refine oC ?_
  refine nC (JC.ret ?_)
  refine JX.end1 (Or.inl rfl) (()) Tryz.results80 ((xe).trans (by first | exact xval | (dsimp only; exact xval))) xpkE
theorem next_76_1 (G : Gst) (rr : Nat) (a0 a1 a2 a3 a4 a5 : Value) : Con Tryz.prog G 80 #[.pointer (some ⟨rr, 6, none⟩), .int .u8 1] [cel rr 191 #[a0, a1, a2, a3, a4, a5, .int .u8 76]] (fun _ : Unit => .nilIface) (fun _ => [cel rr 191 #[a0, a1, a2, a3, a4, a5, .int .u8 82]]) := by
  refine Con.intro Tryz.func80 rfl (by kernel_rfl) Tryz.ntmps80 (Nat.le_of_ble_eq_true rfl) ?_
  intro F
  show JC _ _ _ _ _ _ [(0, _), (1, _)] _ [_, _]
  refine sR ?_
  refine oC ?_
  refine nC (JC.seq (sR ?_))
  refine oM ?_
  first | refine JO.py (Py.nil xe) ?_ | refine JO.py (Py.nilI xe) ?_
  refine JO.py (Py.load scal186 xe xpick xrow) ?_
  refine nC (JC.block (sR ?_))
  first | refine oD (Py.eql xe ev_const) ?_ | refine oU (Py.eql xe ev_const) ?_ | refine JO.py (Py.eql xe ev_const) ?_
  refine oA ?_
  refine nC ?_
  refine cF ?_
  refine sR ?_
  first | refine oD (Py.eql xe ev_const) ?_ | refine oU (Py.eql xe ev_const) ?_ | refine JO.py (Py.eql xe ev_const) ?_
  refine oA ?_
  refine nC ?_
  refine cT ?_
  refine sR ?_
  refine oM ?_
  refine nC (JC.block (sR ?_))
  first | refine oD (Py.eql xe ev_const) ?_ | refine oU (Py.eql xe ev_const) ?_ | refine JO.py (Py.eql xe ev_const) ?_
  refine oA ?_
  refine nC ?_
  refine cF ?_
  refine sR ?_
  first | refine oD (Py.eql xe ev_const) ?_ | refine oU (Py.eql xe ev_const) ?_ | refine JO.py (Py.eql xe ev_const) ?_
  refine oA ?_
  refine nC ?_
  refine cT ?_
  refine JC.region ?_
  refine oM ?_
  first | refine JO.py (Py.nil xe) ?_ | refine JO.py (Py.nilI xe) ?_
  refine JO.store siz186 xe ev_const (by first | rfl | assumption) xpick xsize xnorm ?_
  refine JO.nil (JX.blockN (JX.blockN (JX.code (sR ?_))))
  refine oC ?_
  refine nC (JC.ret ?_)
  refine JX.end1 (Or.inl rfl) (()) Tryz.results80 ((xe).trans (by first | exact xval | (dsimp only; exact xval))) xpkE
theorem next_76_6 (G : Gst) (rr : Nat) (a0 a1 a2 a3 a4 a5 : Value) : Con Tryz.prog G 80 #[.pointer (some ⟨rr, 6, none⟩), .int .u8 6] [cel rr 191 #[a0, a1, a2, a3, a4, a5, .int .u8 76]] (fun _ : Unit => .nilIface) (fun _ => [cel rr 191 #[a0, a1, a2, a3, a4, a5, .int .u8 76]]) := by
  refine Con.intro Tryz.func80 rfl (by kernel_rfl) Tryz.ntmps80 (Nat.le_of_ble_eq_true rfl) ?_
  intro F
  show JC _ _ _ _ _ _ [(0, _), (1, _)] _ [_, _]
  refine sR ?_
  refine oC ?_
  refine nC (JC.seq (sR ?_))
  refine oM ?_
  first | refine JO.py (Py.nil xe) ?_ | refine JO.py (Py.nilI xe) ?_
  refine JO.py (Py.load scal186 xe xpick xrow) ?_
  refine nC (JC.block (sR ?_))
  first | refine oD (Py.eql xe ev_const) ?_ | refine oU (Py.eql xe ev_const) ?_ | refine JO.py (Py.eql xe ev_const) ?_
  refine oA ?_
  refine nC ?_
  refine cF ?_
  refine sR ?_
  first | refine oD (Py.eql xe ev_const) ?_ | refine oU (Py.eql xe ev_const) ?_ | refine JO.py (Py.eql xe ev_const) ?_
  refine oA ?_
  refine nC ?_
  refine cT ?_
  refine sR ?_
  refine oM ?_
  refine nC (JC.block (sR ?_))
  first | refine oD (Py.eql xe ev_const) ?_ | refine oU (Py.eql xe ev_const) ?_ | refine JO.py (Py.eql xe ev_const) ?_
  refine oA ?_
  refine nC ?_
  refine cF ?_
  refine sR ?_
  first | refine oD (Py.eql xe ev_const) ?_ | refine oU (Py.eql xe ev_const) ?_ | refine JO.py (Py.eql xe ev_const) ?_
  refine oA ?_
  refine nC ?_
  refine cF ?_
  refine sR ?_
  first | refine oD (Py.eql xe ev_const) ?_ | refine oU (Py.eql xe ev_const) ?_ | refine JO.py (Py.eql xe ev_const) ?_
  refine oA ?_
  refine nC ?_
  refine cF ?_
  refine JC.seq (sR ?_)
  first | refine oD (Py.eql xe ev_const) ?_ | refine oU (Py.eql xe ev_const) ?_ | refine JO.py (Py.eql xe ev_const) ?_
  refine oA ?_
  refine nC ?_
  refine cF ?_
  refine sR ?_
  first | refine oD (Py.eql xe ev_const) ?_ | refine oU (Py.eql xe ev_const) ?_ | refine JO.py (Py.eql xe ev_const) ?_
  refine oA ?_
  refine nC ?_
  refine cF ?_
  refine sR ?_
  first | refine oD (Py.eql xe ev_const) ?_ | refine oU (Py.eql xe ev_const) ?_ | refine JO.py (Py.eql xe ev_const) ?_
  refine oA ?_
  refine nC ?_
  refine cF ?_
  refine JC.region ?_
  first | refine oD (Py.eql xe ev_const) ?_ | refine oU (Py.eql xe ev_const) ?_ | refine JO.py (Py.eql xe ev_const) ?_
  refine oA ?_
  refine nC ?_
  refine cT ?_
  refine JC.exit (JX.blockE (JX.blockN (JX.code (sR ?_))))
  refine oC ?_
  refine nC (JC.ret ?_)
  refine JX.end1 (Or.inl rfl) (()) Tryz.results80 ((xe).trans (by first | exact xval | (dsimp only; exact xval))) xpkE
theorem next_82_0 (G : Gst) (rr : Nat) (a0 a1 a2 a3 a4 a5 : Value) : Con Tryz.prog G 80 #[.pointer (some ⟨rr, 6, none⟩), .int .u8 0] [cel rr 191 #[a0, a1, a2, a3, a4, a5, .int .u8 82]] (fun _ : Unit => .nilIface) (fun _ => [cel rr 191 #[a0, a1, a2, a3, a4, a5, .int .u8 84]]) := by
  refine Con.intro Tryz.func80 rfl (by kernel_rfl) Tryz.ntmps80 (Nat.le_of_ble_eq_true rfl) ?_
  intro F
  show JC _ _ _ _ _ _ [(0, _), (1, _)] _ [_, _]
  refine sR ?_
  refine oC ?_
  refine nC (JC.seq (sR ?_))
  refine oM ?_
  first | refine JO.py (Py.nil xe) ?_ | refine JO.py (Py.nilI xe) ?_
  refine JO.py (Py.load scal186 xe xpick xrow) ?_
  refine nC (JC.block (sR ?_))
  first | refine oD (Py.eql xe ev_const) ?_ | refine oU (Py.eql xe ev_const) ?_ | refine JO.py (Py.eql xe ev_const) ?_
  refine oA ?_
  refine nC ?_
  refine cF ?_
  refine sR ?_
  first | refine oD (Py.eql xe ev_const) ?_ | refine oU (Py.eql xe ev_const) ?_ | refine JO.py (Py.eql xe ev_const) ?_
  refine oA ?_
  refine nC ?_
  refine cF ?_
  refine sR ?_
  first | refine oD (Py.eql xe ev_const) ?_ | refine oU (Py.eql xe ev_const) ?_ | refine JO.py (Py.eql xe ev_const) ?_
  refine oA ?_
  refine nC ?_
  refine cT ?_
  refine sR ?_
  refine oM ?_
  refine nC (JC.block (sR ?_))
  first | refine oD (Py.eql xe ev_const) ?_ | refine oU (Py.eql xe ev_const) ?_ | refine JO.py (Py.eql xe ev_const) ?_
  refine oA ?_
  refine nC ?_
  refine cT ?_
  refine JC.region ?_
  refine oM ?_
  first | refine JO.py (Py.nil xe) ?_ | refine JO.py (Py.nilI xe) ?_
  refine JO.store siz186 xe ev_const (by first | rfl | assumption) xpick xsize xnorm ?_
  refine JO.nil (JX.blockN (JX.blockN (JX.code (sR ?_))))
  refine oC ?_
  refine nC (JC.ret ?_)
  refine JX.end1 (Or.inl rfl) (()) Tryz.results80 ((xe).trans (by first | exact xval | (dsimp only; exact xval))) xpkE
theorem next_82_1 (G : Gst) (rr : Nat) (a0 a1 a2 a3 a4 a5 : Value) : Con Tryz.prog G 80 #[.pointer (some ⟨rr, 6, none⟩), .int .u8 1] [cel rr 191 #[a0, a1, a2, a3, a4, a5, .int .u8 82]] (fun _ : Unit => .nilIface) (fun _ => [cel rr 191 #[a0, a1, a2, a3, a4, a5, .int .u8 82]]) := by
  refine Con.intro Tryz.func80 rfl (by kernel_rfl) Tryz.ntmps80 (Nat.le_of_ble_eq_true rfl) ?_
  intro F
  show JC _ _ _ _ _ _ [(0, _), (1, _)] _ [_, _]
  refine sR ?_
  refine oC ?_
  refine nC (JC.seq (sR ?_))
  refine oM ?_
  first | refine JO.py (Py.nil xe) ?_ | refine JO.py (Py.nilI xe) ?_
  refine JO.py (Py.load scal186 xe xpick xrow) ?_
  refine nC (JC.block (sR ?_))
  first | refine oD (Py.eql xe ev_const) ?_ | refine oU (Py.eql xe ev_const) ?_ | refine JO.py (Py.eql xe ev_const) ?_
  refine oA ?_
  refine nC ?_
  refine cF ?_
  refine sR ?_
  first | refine oD (Py.eql xe ev_const) ?_ | refine oU (Py.eql xe ev_const) ?_ | refine JO.py (Py.eql xe ev_const) ?_
  refine oA ?_
  refine nC ?_
  refine cF ?_
  refine sR ?_
  first | refine oD (Py.eql xe ev_const) ?_ | refine oU (Py.eql xe ev_const) ?_ | refine JO.py (Py.eql xe ev_const) ?_
  refine oA ?_
  refine nC ?_
  refine cT ?_
  refine sR ?_
  refine oM ?_
  refine nC (JC.block (sR ?_))
  first | refine oD (Py.eql xe ev_const) ?_ | refine oU (Py.eql xe ev_const) ?_ | refine JO.py (Py.eql xe ev_const) ?_
  refine oA ?_
  refine nC ?_
  refine cF ?_
  refine JC.seq (sR ?_)
  first | refine oD (Py.eql xe ev_const) ?_ | refine oU (Py.eql xe ev_const) ?_ | refine JO.py (Py.eql xe ev_const) ?_
  refine oA ?_
  refine nC ?_
  refine cT ?_
  refine JC.skip (JX.code ?_)
  refine cT ?_
  refine JC.exit (JX.blockE (JX.blockN (JX.code (sR ?_))))
  refine oC ?_
  refine nC (JC.ret ?_)
  refine JX.end1 (Or.inl rfl) (()) Tryz.results80 ((xe).trans (by first | exact xval | (dsimp only; exact xval))) xpkE
theorem next_82_6 (G : Gst) (rr : Nat) (a0 a1 a2 a3 a4 a5 : Value) : Con Tryz.prog G 80 #[.pointer (some ⟨rr, 6, none⟩), .int .u8 6] [cel rr 191 #[a0, a1, a2, a3, a4, a5, .int .u8 82]] (fun _ : Unit => .nilIface) (fun _ => [cel rr 191 #[a0, a1, a2, a3, a4, a5, .int .u8 76]]) := by
  refine Con.intro Tryz.func80 rfl (by kernel_rfl) Tryz.ntmps80 (Nat.le_of_ble_eq_true rfl) ?_
  intro F
  show JC _ _ _ _ _ _ [(0, _), (1, _)] _ [_, _]
  refine sR ?_
  refine oC ?_
  refine nC (JC.seq (sR ?_))
  refine oM ?_
  first | refine JO.py (Py.nil xe) ?_ | refine JO.py (Py.nilI xe) ?_
  refine JO.py (Py.load scal186 xe xpick xrow) ?_
  refine nC (JC.block (sR ?_))
  first | refine oD (Py.eql xe ev_const) ?_ | refine oU (Py.eql xe ev_const) ?_ | refine JO.py (Py.eql xe ev_const) ?_
  refine oA ?_
  refine nC ?_
  refine cF ?_
  refine sR ?_
  first | refine oD (Py.eql xe ev_const) ?_ | refine oU (Py.eql xe ev_const) ?_ | refine JO.py (Py.eql xe ev_const) ?_
  refine oA ?_
  refine nC ?_
  refine cF ?_
  refine sR ?_
  first | refine oD (Py.eql xe ev_const) ?_ | refine oU (Py.eql xe ev_const) ?_ | refine JO.py (Py.eql xe ev_const) ?_
  refine oA ?_
  refine nC ?_
  refine cT ?_
  refine sR ?_
  refine oM ?_
  refine nC (JC.block (sR ?_))
  first | refine oD (Py.eql xe ev_const) ?_ | refine oU (Py.eql xe ev_const) ?_ | refine JO.py (Py.eql xe ev_const) ?_
  refine oA ?_
  refine nC ?_
  refine cF ?_
  refine JC.seq (sR ?_)
  first | refine oD (Py.eql xe ev_const) ?_ | refine oU (Py.eql xe ev_const) ?_ | refine JO.py (Py.eql xe ev_const) ?_
  refine oA ?_
  refine nC ?_
  refine cF ?_
  refine JC.region ?_
  first | refine oD (Py.eql xe ev_const) ?_ | refine oU (Py.eql xe ev_const) ?_ | refine JO.py (Py.eql xe ev_const) ?_
  refine oA ?_
  refine nC ?_
  refine cF ?_
  refine JC.seq (sR ?_)
  first | refine oD (Py.eql xe ev_const) ?_ | refine oU (Py.eql xe ev_const) ?_ | refine JO.py (Py.eql xe ev_const) ?_
  refine oA ?_
  refine nC ?_
  refine cF ?_
  refine JC.region ?_
  first | refine oD (Py.eql xe ev_const) ?_ | refine oU (Py.eql xe ev_const) ?_ | refine JO.py (Py.eql xe ev_const) ?_
  refine oA ?_
  refine nC ?_
  refine cT ?_
  refine JC.region ?_
  refine oM ?_
  first | refine JO.py (Py.nil xe) ?_ | refine JO.py (Py.nilI xe) ?_
  refine JO.store siz186 xe ev_const (by first | rfl | assumption) xpick xsize xnorm ?_
  refine JO.nil (JX.blockN (JX.blockN (JX.code (sR ?_))))
  refine oC ?_
  refine nC (JC.ret ?_)
  refine JX.end1 (Or.inl rfl) (()) Tryz.results80 ((xe).trans (by first | exact xval | (dsimp only; exact xval))) xpkE
/-- What the kinds of chunks make of the reader's state. -/
def Nxt (st ct st' : Nat) : Prop := (st = 83 ∨ st = 76 ∨ st = 82) ∧ ((ct = 0 ∧ st' = 84) ∨ (ct = 1 ∧ st' = 82) ∨ (ct = 6 ∧ st' = 76))
theorem next_con (G : Gst) (rr st ct st' : Nat) (h : Nxt st ct st') (a0 a1 a2 a3 a4 a5 : Value) : Con Tryz.prog G 80 #[.pointer (some ⟨rr, 6, none⟩), .int .u8 (ct : Int)] [cel rr 191 #[a0, a1, a2, a3, a4, a5, .int .u8 (st : Int)]] (fun _ : Unit => .nilIface) (fun _ => [cel rr 191 #[a0, a1, a2, a3, a4, a5, .int .u8 (st' : Int)]]) := by
  obtain ⟨h1, h2⟩ := h
  rcases h1 with rfl | rfl | rfl <;> rcases h2 with ⟨rfl, rfl⟩ | ⟨rfl, rfl⟩ | ⟨rfl, rfl⟩
  · exact next_83_0 G rr a0 a1 a2 a3 a4 a5
  · exact next_83_1 G rr a0 a1 a2 a3 a4 a5
  · exact next_83_6 G rr a0 a1 a2 a3 a4 a5
  · exact next_76_0 G rr a0 a1 a2 a3 a4 a5
  · exact next_76_1 G rr a0 a1 a2 a3 a4 a5
  · exact next_76_6 G rr a0 a1 a2 a3 a4 a5
  · exact next_82_0 G rr a0 a1 a2 a3 a4 a5
  · exact next_82_1 G rr a0 a1 a2 a3 a4 a5
  · exact next_82_6 G rr a0 a1 a2 a3 a4 a5
end Go.Proofs.YtfpepghmbeoanaaGreatDoor
end

section
open Go Go.RowKit
namespace Go.Proofs.YtfpepghmbeoanaaGreatDoor
open Lz
theorem nil88 (a : Addr) : NilA Tryz.prog 88 (.agg #[.pointer (some a)]) "Read" := fun w => by kernel_rfl
theorem agg230 : Aggr Tryz.prog 230 6 := fun _ => ⟨by kernel_rfl, by kernel_rfl⟩
/-- A header's cells. -/
abbrev HdrC (h : Nat) (ct un co a b e : Nat) : Asn := cel h 230 #[.int .u8 (ct : Int), .int .u32 (un : Int), .int .u16 (co : Int), .int .i64 (a : Int), .int .i64 (b : Int), .int .i64 (e : Int)]
theorem hct0v_con (G : Gst) : Con Tryz.prog G 97 #[vu8 0] [] (fun _ : Unit => .tuple #[.int .u8 0, .nilIface]) (fun _ => []) := hct0_con G
theorem hct1v_con (G : Gst) : Con Tryz.prog G 97 #[vu8 1] [] (fun _ : Unit => .tuple #[.int .u8 1, .nilIface]) (fun _ => []) := hct1_con G
theorem hct6v_con (G : Gst) : Con Tryz.prog G 97 #[vu8 224] [] (fun _ : Unit => .tuple #[.int .u8 6, .nilIface]) (fun _ => []) := hct6_con G
theorem unm0_con (G : Gst) (h b : Nat) (x1 x2 x3 x4 x5 : Value) : Con Tryz.prog G 99 #[.pointer (some ⟨h, 0, none⟩), .slice (some ⟨b, 0, none⟩) 1 6] [HdrC h 0 0 0 0 0 0, cel b 5 #[vu8 0, x1, x2, x3, x4, x5]] (fun _ : Unit => .nilIface) (fun _ => [HdrC h 0 0 0 0 0 0]) := by
  refine Con.intro Tryz.func99 rfl (by kernel_rfl) Tryz.ntmps99 (Nat.le_of_ble_eq_true rfl) ?_
  intro F
  show JC _ _ _ _ _ _ [(0, _), (1, _)] _ [_, _, _]
  refine sR ?_
  refine oC ?_
  refine nC (JC.seq (sR ?_))
  refine oM ?_
  refine JO.py (Py.lenS Tryz.underlying22 xe) ?_
  first | refine oD (Py.eql xe ev_const) ?_ | refine oU (Py.eql xe ev_const) ?_ | refine JO.py (Py.eql xe ev_const) ?_
  refine nC ?_
  refine cF ?_
  refine JC.skip (JX.code (sR ?_))
  refine oM ?_
  refine JO.py (Py.idxS Tryz.underlying22 siz5 xe ev_const (by omega) xidx xmult) ?_
  refine JO.py (Py.load scal5 xe xpick xrow) ?_
  refine JO.call (Evs.cons xe Evs.nil) (hct0v_con G) xpkE ?_
  rintro _
  show JO _ _ _ _ _ _ _ ((16, _) :: _) _ (_ :: _)
  refine oM ?_
  refine JO.py (Py.extrI xe xix) ?_
  refine JO.py (Py.extrI xe xix) ?_
  refine oA ?_
  refine oA ?_
  refine nC (JC.seq (sR ?_))
  refine oM ?_
  first | refine JO.py (Py.neqNil Tryz.underlying70 xe rfl) ?_ | refine JO.py (Py.neqHeld Tryz.underlying70 xe rfl) ?_
  refine nC ?_
  refine cF ?_
  refine JC.skip (JX.code (sR ?_))
  refine oM ?_
  refine JO.call (Evs.cons xe Evs.nil) (hl0_con G) xpkE ?_
  rintro _
  show JO _ _ _ _ _ _ _ ((23, _) :: _) _ (_ :: _)
  refine oA ?_
  refine nC (JC.seq (sR ?_))
  refine oM ?_
  refine JO.py (Py.lenS Tryz.underlying22 xe) ?_
  refine oM ?_
  first | refine oD (Py.lss xe xe) ?_ | refine oU (Py.lss xe xe) ?_ | refine JO.py (Py.lss xe xe) ?_
  refine nC ?_
  refine cF ?_
  refine JC.skip (JX.code (JC.seq (sR ?_)))
  refine oM ?_
  refine JO.py (Py.lenS Tryz.underlying22 xe) ?_
  refine oM ?_
  first | refine oD (Py.gtr xe xe) ?_ | refine oU (Py.gtr xe xe) ?_ | refine JO.py (Py.gtr xe xe) ?_
  refine nC ?_
  refine cF ?_
  refine JC.skip (JX.code (sR ?_))
  refine oM ?_
  refine oM ?_
  refine JO.py (Py.build bld230 (Pts.cons xe Pts.nil) xfl) ?_
  first | refine JO.py (Py.nil xe) ?_ | refine JO.py (Py.nilI xe) ?_
  refine JO.storeW siz230 xe xe (by first | rfl | (simp; done) | assumption | fail) (by first | (simp [Value.oneCell']; done) | assumption | fail) xpick (by first | rfl | (simp; done) | assumption | fail) ?_
  refine nC (JC.seq (sR ?_))
  refine oM ?_
  first | refine oD (Py.eql xe ev_const) ?_ | refine oU (Py.eql xe ev_const) ?_ | refine JO.py (Py.eql xe ev_const) ?_
  refine nC ?_
  refine cT ?_
  refine sR ?_
  refine oC ?_
  refine nC (JC.ret (JX.ret ?_))
  refine JX.end1 (Or.inl rfl) (()) Tryz.results99 ((xe).trans (by first | exact xval | (dsimp only; exact xval))) xpkE
set_option maxRecDepth 100000 in
theorem unm1_con (G : Gst) (h b x y : Nat) (h1 : x < 256) (h2 : y < 256) (x3 x4 x5 : Value) : Con Tryz.prog G 99 #[.pointer (some ⟨h, 0, none⟩), .slice (some ⟨b, 0, none⟩) 3 6] [HdrC h 0 0 0 0 0 0, cel b 5 #[vu8 1, vu8 x, vu8 y, x3, x4, x5]] (fun _ : Unit => .nilIface) (fun _ => [HdrC h 1 (x * 256 + y) 0 0 0 0]) := by
  refine Con.intro Tryz.func99 rfl (by kernel_rfl) Tryz.ntmps99 (Nat.le_of_ble_eq_true rfl) ?_
  intro F
  show JC _ _ _ _ _ _ [(0, _), (1, _)] _ [_, _, _]
  refine sR ?_
  refine oC ?_
  refine nC (JC.seq (sR ?_))
  refine oM ?_
  refine JO.py (Py.lenS Tryz.underlying22 xe) ?_
  first | refine oD (Py.eql xe ev_const) ?_ | refine oU (Py.eql xe ev_const) ?_ | refine JO.py (Py.eql xe ev_const) ?_
  refine nC ?_
  refine cF ?_
  refine JC.skip (JX.code (sR ?_))
  refine oM ?_
  refine JO.py (Py.idxS Tryz.underlying22 siz5 xe ev_const (by omega) xidx xmult) ?_
  refine JO.py (Py.load scal5 xe xpick xrow) ?_
  refine JO.call (Evs.cons xe Evs.nil) (hct1v_con G) xpkE ?_
  rintro _
  show JO _ _ _ _ _ _ _ ((16, _) :: _) _ (_ :: _)
  refine oM ?_
  refine JO.py (Py.extrI xe xix) ?_
  refine JO.py (Py.extrI xe xix) ?_
  refine oA ?_
  refine oA ?_
  refine nC (JC.seq (sR ?_))
  refine oM ?_
  first | refine JO.py (Py.neqNil Tryz.underlying70 xe rfl) ?_ | refine JO.py (Py.neqHeld Tryz.underlying70 xe rfl) ?_
  refine nC ?_
  refine cF ?_
  refine JC.skip (JX.code (sR ?_))
  refine oM ?_
  refine JO.call (Evs.cons xe Evs.nil) (hl1_con G) xpkE ?_
  rintro _
  show JO _ _ _ _ _ _ _ ((23, _) :: _) _ (_ :: _)
  refine oA ?_
  refine nC (JC.seq (sR ?_))
  refine oM ?_
  refine JO.py (Py.lenS Tryz.underlying22 xe) ?_
  refine oM ?_
  first | refine oD (Py.lss xe xe) ?_ | refine oU (Py.lss xe xe) ?_ | refine JO.py (Py.lss xe xe) ?_
  refine nC ?_
  refine cF ?_
  refine JC.skip (JX.code (JC.seq (sR ?_)))
  refine oM ?_
  refine JO.py (Py.lenS Tryz.underlying22 xe) ?_
  refine oM ?_
  first | refine oD (Py.gtr xe xe) ?_ | refine oU (Py.gtr xe xe) ?_ | refine JO.py (Py.gtr xe xe) ?_
  refine nC ?_
  refine cF ?_
  refine JC.skip (JX.code (sR ?_))
  refine oM ?_
  refine oM ?_
  refine JO.py (Py.build bld230 (Pts.cons xe Pts.nil) xfl) ?_
  first | refine JO.py (Py.nil xe) ?_ | refine JO.py (Py.nilI xe) ?_
  refine JO.storeW siz230 xe xe (by first | rfl | (simp; done) | assumption | fail) (by first | (simp [Value.oneCell']; done) | assumption | fail) xpick (by first | rfl | (simp; done) | assumption | fail) ?_
  refine nC (JC.seq (sR ?_))
  refine oM ?_
  first | refine oD (Py.eql xe ev_const) ?_ | refine oU (Py.eql xe ev_const) ?_ | refine JO.py (Py.eql xe ev_const) ?_
  refine nC ?_
  refine cF ?_
  refine JC.skip (JX.code (sR ?_))
  refine oM ?_
  refine oM ?_
  refine JO.py (Py.slc (l := 1) (h := 3) (p := 1) (q := 2) (c := 5) Tryz.underlying22 siz5 xe (Bd.some ev_const (by omega)) (Bd.some ev_const (by omega)) (by omega) (by omega) (by omega) (by omega) (by omega) (by omega)) ?_
  refine JO.call (Evs.cons xe Evs.nil) (u16BE_con G b 1 2 5 5 (0, 0) #[vu8 1, vu8 x, vu8 y, x3, x4, x5] x y (Nat.le_refl _) rfl rfl h1 h2) xpkE ?_
  rintro _
  show JO _ _ _ _ _ _ _ ((43, _) :: _) _ (_ :: _ :: _)
  first | refine JO.py (Py.conv cnv61_45 xe (w_u32 (by omega))) ?_ | refine JO.py (Py.conv cnv61_45 xe (m_u32 _)) ?_
  first | refine JO.py (Py.nil xe) ?_ | refine JO.py (Py.nilI xe) ?_
  refine JO.py (Py.fld fld230_1 xe xoff) ?_
  refine JO.store siz45 xe xe (by first | rfl | assumption) xpick xsize xnorm ?_
  refine nC (JC.seq (sR ?_))
  refine oM ?_
  first | refine oD (Py.leq xe ev_const) ?_ | refine oU (Py.leq xe ev_const) ?_ | refine JO.py (Py.leq xe ev_const) ?_
  refine nC ?_
  refine cT ?_
  refine sR ?_
  refine oC ?_
  refine nC (JC.ret (JX.ret ?_))
  refine JX.end1 (Or.inl rfl) (()) Tryz.results99 ((xe).trans (by first | exact xval | (dsimp only; exact xval))) xpkE
set_option maxRecDepth 100000 in
set_option maxHeartbeats 2000000 in
theorem unm6_con (G : Gst) (c : Cfg) (hc : c.Ok) (h b x y z w q : Nat) (h1 : x < 256) (h2 : y < 256) (h3 : z < 256) (h4 : w < 256) (hq : q = c.lc + 9 * (c.lp + 5 * c.pb)) : Con Tryz.prog G 99 #[.pointer (some ⟨h, 0, none⟩), .slice (some ⟨b, 0, none⟩) 6 6] [HdrC h 0 0 0 0 0 0, cel b 5 #[vu8 224, vu8 x, vu8 y, vu8 z, vu8 w, vu8 q]] (fun _ : Unit => .nilIface) (fun _ => [HdrC h 6 (x * 256 + y) (z * 256 + w) c.lc c.lp c.pb]) := by
  have k1 := hc.l
  have k2 := hc.p
  refine Con.intro Tryz.func99 rfl (by kernel_rfl) Tryz.ntmps99 (Nat.le_of_ble_eq_true rfl) ?_
  intro F
  show JC _ _ _ _ _ _ [(0, _), (1, _)] _ [_, _, _]
  refine sR ?_
  refine oC ?_
  refine nC (JC.seq (sR ?_))
  refine oM ?_
  refine JO.py (Py.lenS Tryz.underlying22 xe) ?_
  first | refine oD (Py.eql xe ev_const) ?_ | refine oU (Py.eql xe ev_const) ?_ | refine JO.py (Py.eql xe ev_const) ?_
  refine nC ?_
  refine cF ?_
  refine JC.skip (JX.code (sR ?_))
  refine oM ?_
  refine JO.py (Py.idxS Tryz.underlying22 siz5 xe ev_const (by omega) xidx xmult) ?_
  refine JO.py (Py.load scal5 xe xpick xrow) ?_
  refine JO.call (Evs.cons xe Evs.nil) (hct6v_con G) xpkE ?_
  rintro _
  show JO _ _ _ _ _ _ _ ((16, _) :: _) _ (_ :: _)
  refine oM ?_
  refine JO.py (Py.extrI xe xix) ?_
  refine JO.py (Py.extrI xe xix) ?_
  refine oA ?_
  refine oA ?_
  refine nC (JC.seq (sR ?_))
  refine oM ?_
  first | refine JO.py (Py.neqNil Tryz.underlying70 xe rfl) ?_ | refine JO.py (Py.neqHeld Tryz.underlying70 xe rfl) ?_
  refine nC ?_
  refine cF ?_
  refine JC.skip (JX.code (sR ?_))
  refine oM ?_
  refine JO.call (Evs.cons xe Evs.nil) (hl6_con G) xpkE ?_
  rintro _
  show JO _ _ _ _ _ _ _ ((23, _) :: _) _ (_ :: _)
  refine oA ?_
  refine nC (JC.seq (sR ?_))
  refine oM ?_
  refine JO.py (Py.lenS Tryz.underlying22 xe) ?_
  refine oM ?_
  first | refine oD (Py.lss xe xe) ?_ | refine oU (Py.lss xe xe) ?_ | refine JO.py (Py.lss xe xe) ?_
  refine nC ?_
  refine cF ?_
  refine JC.skip (JX.code (JC.seq (sR ?_)))
  refine oM ?_
  refine JO.py (Py.lenS Tryz.underlying22 xe) ?_
  refine oM ?_
  first | refine oD (Py.gtr xe xe) ?_ | refine oU (Py.gtr xe xe) ?_ | refine JO.py (Py.gtr xe xe) ?_
  refine nC ?_
  refine cF ?_
  refine JC.skip (JX.code (sR ?_))
  refine oM ?_
  refine oM ?_
  refine JO.py (Py.build bld230 (Pts.cons xe Pts.nil) xfl) ?_
  first | refine JO.py (Py.nil xe) ?_ | refine JO.py (Py.nilI xe) ?_
  refine JO.storeW siz230 xe xe (by first | rfl | (simp; done) | assumption | fail) (by first | (simp [Value.oneCell']; done) | assumption | fail) xpick (by first | rfl | (simp; done) | assumption | fail) ?_
  refine nC (JC.seq (sR ?_))
  refine oM ?_
  first | refine oD (Py.eql xe ev_const) ?_ | refine oU (Py.eql xe ev_const) ?_ | refine JO.py (Py.eql xe ev_const) ?_
  refine nC ?_
  refine cF ?_
  refine JC.skip (JX.code (sR ?_))
  refine oM ?_
  refine oM ?_
  refine JO.py (Py.slc (l := 1) (h := 3) (p := 1) (q := 2) (c := 5) Tryz.underlying22 siz5 xe (Bd.some ev_const (by omega)) (Bd.some ev_const (by omega)) (by omega) (by omega) (by omega) (by omega) (by omega) (by omega)) ?_
  refine JO.call (Evs.cons xe Evs.nil) (u16BE_con G b 1 2 5 5 (0, 0) #[vu8 224, vu8 x, vu8 y, vu8 z, vu8 w, vu8 q] x y (Nat.le_refl _) rfl rfl h1 h2) xpkE ?_
  rintro _
  show JO _ _ _ _ _ _ _ ((43, _) :: _) _ (_ :: _ :: _)
  first | refine JO.py (Py.conv cnv61_45 xe (w_u32 (by omega))) ?_ | refine JO.py (Py.conv cnv61_45 xe (m_u32 _)) ?_
  first | refine JO.py (Py.nil xe) ?_ | refine JO.py (Py.nilI xe) ?_
  refine JO.py (Py.fld fld230_1 xe xoff) ?_
  refine JO.store siz45 xe xe (by first | rfl | assumption) xpick xsize xnorm ?_
  refine nC (JC.seq (sR ?_))
  refine oM ?_
  first | refine oD (Py.leq xe ev_const) ?_ | refine oU (Py.leq xe ev_const) ?_ | refine JO.py (Py.leq xe ev_const) ?_
  refine nC ?_
  refine cF ?_
  refine JC.skip (JX.code (JC.seq ?_))
  refine JC.regionM [(0, true), (1, true), (2, true), (3, true), (4, true), (5, true), (6, true), (7, true), (8, true), (9, true), (10, true), (11, true), (12, true), (13, false)] mixed (by kernel_rfl) ?_
  refine JM.py ao ⟨fun _ => Py.move xe⟩ ?_
  first | refine JM.py ao ⟨fun _ => Py.nil xe⟩ ?_ | refine JM.py ao ⟨fun _ => Py.nilI xe⟩ ?_
  refine JM.py ao ⟨fun _ => Py.fld fld230_1 xe xoff⟩ ?_
  refine JM.ld ao scal45 xe xpick xrow ?_
  refine JM.py ao ⟨fun _ => Py.move xe⟩ ?_
  refine JM.py ao ⟨fun _ => Py.idxS Tryz.underlying22 siz5 xe ev_const (by omega) xidx xmult⟩ ?_
  refine JM.ld ao scal5 xe xpick xrow ?_
  refine JM.py ao ⟨fun _ => Py.bin xe ev_const (v := .int .u8 0) (fun w => by kernel_rfl)⟩ ?_
  first | refine JM.py ao ⟨fun _ => Py.conv cnv5_45 xe (w_u32 (by omega))⟩ ?_ | refine JM.py ao ⟨fun _ => Py.conv cnv5_45 xe (m_u32 _)⟩ ?_
  first | refine JM.py ao ⟨fun _ => Py.shl 16 65536 xe ev_const rfl (by decide) (by decide) (w_u32 (by omega))⟩ ?_ | refine JM.py ao ⟨fun _ => Py.shl 16 65536 xe ev_const rfl (by decide) (by decide) (m_u32 _)⟩ ?_
  refine JM.py ao ⟨fun _ => Py.to (Py.orN xe xe (r_u32 (by omega)) (r_u32 (by omega)) (by decide)) (v' := .int .u32 ((x * 256 + y : Nat) : Int)) (vint (by simp; omega))⟩ ?_
  first | refine JM.py ao ⟨fun _ => Py.nil xe⟩ ?_ | refine JM.py ao ⟨fun _ => Py.nilI xe⟩ ?_
  refine JM.py ao ⟨fun _ => Py.fld fld230_1 xe xoff⟩ ?_
  refine JM.eff ao ?_
  refine JO.store siz45 xe xe (by first | rfl | assumption) xpick xsize xnorm ?_
  refine JO.nil ?_
  refine JX.mix (Kept.drop (Forced.step (by kernel_rfl)) (Kept.drop (Forced.step (by kernel_rfl)) Kept.nil)) ?_
  refine JM.nil (JX.code (sR ?_))
  refine oM ?_
  refine oM ?_
  refine JO.py (Py.slc (l := 3) (h := 5) (p := 3) (q := 2) (c := 3) Tryz.underlying22 siz5 xe (Bd.some ev_const (by omega)) (Bd.some ev_const (by omega)) (by omega) (by omega) (by omega) (by omega) (by omega) (by omega)) ?_
  refine JO.call (Evs.cons xe Evs.nil) (u16BE_con G b 3 2 3 5 (0, 0) #[vu8 224, vu8 x, vu8 y, vu8 z, vu8 w, vu8 q] z w (Nat.le_refl _) rfl rfl h3 h4) xpkE ?_
  rintro _
  show JO _ _ _ _ _ _ _ ((65, _) :: _) _ (_ :: _ :: _)
  first | refine JO.py (Py.nil xe) ?_ | refine JO.py (Py.nilI xe) ?_
  refine JO.py (Py.fld fld230_2 xe xoff) ?_
  refine JO.store siz61 xe xe (by first | rfl | assumption) xpick xsize xnorm ?_
  refine nC (JC.seq (sR ?_))
  refine oM ?_
  first | refine oD (Py.leq xe ev_const) ?_ | refine oU (Py.leq xe ev_const) ?_ | refine JO.py (Py.leq xe ev_const) ?_
  refine nC ?_
  refine cF ?_
  refine JC.skip (JX.code (sR ?_))
  refine oM ?_
  refine oM ?_
  refine JO.py (Py.idxS Tryz.underlying22 siz5 xe ev_const (by omega) xidx xmult) ?_
  refine JO.py (Py.load scal5 xe xpick xrow) ?_
  refine JO.call (Evs.cons xe Evs.nil) (props_con G c hc q hq) xpkE ?_
  rintro _
  show JO _ _ _ _ _ _ _ ((75, _) :: _) _ (_ :: _)
  refine oM ?_
  refine JO.py (Py.extrI xe xix) ?_
  refine JO.py (Py.extrI xe xix) ?_
  first | refine JO.py (Py.nil xe) ?_ | refine JO.py (Py.nilI xe) ?_
  refine JO.py (Py.fld fld230_3 xe xoff) ?_
  refine JO.storeB (cs' := #[.int .u8 6, .int .u32 ((x * 256 + y : Nat) : Int), .int .u16 ((z * 256 + w : Nat) : Int), .int .i64 c.lc, .int .i64 c.lp, .int .i64 c.pb]) siz196 xe xe (by exact rfl) (by simp [Value.oneCell']) xpick (by exact Nat.le_of_ble_eq_true rfl) (by rfl) ?_
  refine oA ?_
  refine nC (sR ?_)
  refine oM ?_
  refine oA ?_
  refine nC (JC.ret ?_)
  refine JX.end1 (Or.inl rfl) (()) Tryz.results99 ((xe).trans (by first | exact xval | (dsimp only; exact xval))) xpkE
theorem readFull0_con (G : Gst) (v : Value) (a : Option Addr) (c : Nat) : Con Tryz.prog G 56 #[v, .slice a 0 c] [] (fun _ : Unit => .tuple #[.int .i64 0, .nilIface]) (fun _ => []) := by
  have h63 : Con Tryz.prog G 63 #[v, .slice a 0 c, .int .i64 ((0 : Nat) : Int)] [] (fun _ : Unit => .tuple #[.int .i64 0, .nilIface]) (fun _ => []) := by
    refine Con.intro Tryz.func63 rfl (by kernel_rfl) Tryz.ntmps63 (Nat.le_of_ble_eq_true rfl) ?_
    intro F
    show JC _ _ _ _ _ _ [(0, _), (1, _), (2, _)] _ [_]
    refine sR ?_
    refine oC ?_
    refine oC ?_
    refine nC (JC.seq (sR ?_))
    refine oM ?_
    refine JO.py (Py.lenS Tryz.underlying22 xe) ?_
    refine oM ?_
    first | refine oD (Py.lss xe xe) ?_ | refine oU (Py.lss xe xe) ?_ | refine JO.py (Py.lss xe xe) ?_
    refine nC ?_
    refine cF ?_
    refine JC.skip (JX.code (JC.seq (JC.block ?_)))
    refine JC.unroll 0 ?_
    refine JC.seq (sR ?_)
    refine oM ?_
    refine oM ?_
    first | refine oD (Py.lss xe xe) ?_ | refine oU (Py.lss xe xe) ?_ | refine JO.py (Py.lss xe xe) ?_
    refine oM ?_
    first | (refine gT ?_; (refine oM ?_)) | refine kF ?_
    first | (refine gT ?_; (first | refine JO.py (Py.eqlNil Tryz.underlying70 xe rfl) ?_ | refine JO.py (Py.eqlHeld Tryz.underlying70 xe rfl) ?_)) | refine kF ?_
    first | refine JO.py (Py.pickT xe xe) ?_ | refine JO.py (Py.pickF xe ev_const) ?_
    refine nC ?_
    refine cF ?_
    refine JC.exit (JX.exit (JX.exit (JX.blockE (JX.code (JC.seq (sR ?_))))))
    refine oM ?_
    refine oM ?_
    first | refine oD (Py.geq xe xe) ?_ | refine oU (Py.geq xe xe) ?_ | refine JO.py (Py.geq xe xe) ?_
    refine nC ?_
    refine cT ?_
    refine JC.region ?_
    refine oC ?_
    refine nC (JC.ret ?_)
    refine JX.end2 (Or.inl rfl) (()) Tryz.results63 (tup2 ((xe).trans (by first | exact xval | (dsimp only; exact xval))) ((xe).trans (by first | exact xval | (dsimp only; exact xval)))) xpkE
  refine Con.intro Tryz.func56 rfl (by kernel_rfl) Tryz.ntmps56 (Nat.le_of_ble_eq_true rfl) ?_
  intro F
  show JC _ _ _ _ _ _ [(0, _), (1, _)] _ [_]
  refine sR ?_
  refine oC ?_
  refine oC ?_
  refine nC (sR ?_)
  refine oM ?_
  refine oM ?_
  refine oM ?_
  refine JO.py (Py.lenS Tryz.underlying22 xe) ?_
  refine JO.call (Evs.cons xe (Evs.cons xe (Evs.cons xe Evs.nil))) h63 xpkE ?_
  rintro _
  show JO _ _ _ _ _ _ _ ((10, _) :: _) _ (_ :: _)
  refine JO.py (Py.extrI xe xix) ?_
  refine JO.py (Py.extrI xe xix) ?_
  refine oA ?_
  refine oA ?_
  refine nC (JC.ret ?_)
  refine JX.end2 (Or.inl rfl) (()) Tryz.results56 (tup2 ((xe).trans (by first | exact xval | (dsimp only; exact xval))) ((xe).trans (by first | exact xval | (dsimp only; exact xval)))) xpkE
theorem piece_drop {all l r : List Nat} {i n : Nat} (h : all.drop i = l ++ r) (hn : l.length = n) (hp : 0 < n) : piece all i n = u8s l := by
  subst hn
  have h1 := congrArg List.length h
  simp only [List.length_drop, List.length_append] at h1
  rw [piece_eq (by omega), h, List.take_left]
theorem drop_add {all l r : List Nat} {i n : Nat} (h : all.drop i = l ++ r) (hn : l.length = n) : all.drop (i + n) = r := by
  subst hn
  rw [← List.drop_drop, h, List.drop_left]
end Go.Proofs.YtfpepghmbeoanaaGreatDoor
end

section
open Go Go.RowKit
namespace Go.Proofs.YtfpepghmbeoanaaGreatDoor
open Lz
theorem first_con (G : Gst) (Z : ZP) (hZ : Z.Ok) (i x : Nat) (r : List Nat) (hd : Z.stream.drop i = x :: r) (b : Nat) : Con Tryz.prog G 56 #[Z.v, .slice (some ⟨b, 0, none⟩) 1 6] [Z.A i, cel b 5 (Array.replicate 6 (.int .u8 0))] (fun _ : Unit => .tuple #[.int .i64 (1 : Nat), .nilIface]) (fun _ => [Z.A (i + 1), cel b 5 #[vu8 x, vu8 0, vu8 0, vu8 0, vu8 0, vu8 0]]) := by
  have hlt : i < Z.m := by have := (drop_cons hd).1; have := hZ.sl; omega
  have h := zRead_con G Z hZ i b 0 1 6 1 (Array.replicate 6 (.int .u8 0)) hlt (by decide) (by simp) (by omega)
  have hp : piece Z.stream i 1 = [vu8 x] := piece_drop (l := [x]) hd rfl (by decide)
  rw [hp] at h
  exact readFull_con G 88 (.agg #[.pointer (some ⟨Z.r, 0, none⟩)]) 139 (.pointer (some ⟨Z.r, 0, none⟩)) (mth88R _) (nil88 _) b 0 1 6 (by decide) (Z.A i) (cel b 5 (Array.replicate 6 (.int .u8 0))) (Z.A (i + 1)) (cel b 5 #[vu8 x, vu8 0, vu8 0, vu8 0, vu8 0, vu8 0]) h
theorem more_con (G : Gst) (Z : ZP) (hZ : Z.Ok) (i n b : Nat) (l r : List Nat) (hd : Z.stream.drop i = l ++ r) (hl : l.length = n) (hn : 1 ≤ n ∧ n ≤ 5) (cs cs' : Array Value) (hs : cs.size = 6) (hcs : splice cs 1 (u8s l) = cs') : Con Tryz.prog G 56 #[Z.v, .slice (some ⟨b, 1, none⟩) n 5] [Z.A i, cel b 5 cs] (fun _ : Unit => .tuple #[.int .i64 (n : Int), .nilIface]) (fun _ => [Z.A (i + n), cel b 5 cs']) := by
  subst hcs
  have hlen := drop_len hd (by intro h; rw [List.append_eq_nil_iff] at h; rw [h.1] at hl; simp at hl; omega)
  rw [List.length_append, hZ.sl] at hlen
  have h := zRead_con G Z hZ i b 1 n 5 n cs (by omega) (by omega) (by omega) (by omega)
  rw [piece_drop hd hl (by omega)] at h
  exact readFull_con G 88 (.agg #[.pointer (some ⟨Z.r, 0, none⟩)]) 139 (.pointer (some ⟨Z.r, 0, none⟩)) (mth88R _) (nil88 _) b 1 n 5 (by omega) (Z.A i) (cel b 5 cs) (Z.A (i + n)) (cel b 5 (splice cs 1 (u8s l))) h
set_option maxRecDepth 100000 in
set_option maxHeartbeats 2000000 in
theorem rh0_con (G : Gst) (Z : ZP) (hZ : Z.Ok) (i : Nat) (r : List Nat) (hd : Z.stream.drop i = [0] ++ r) : Con Tryz.prog G 79 #[Z.v] [Z.A i] (fun h : Nat => .tuple #[.pointer (some ⟨h, 0, none⟩), .nilIface]) (fun h => [HdrC h 0 0 0 0 0 0, Z.A (i + 1)]) := by
  have hd1 : Z.stream.drop (i + 1) = [] ++ r := drop_add (l := [0]) hd rfl
  refine Con.intro Tryz.func79 rfl (by kernel_rfl) Tryz.ntmps79 (Nat.le_of_ble_eq_true rfl) ?_
  intro F
  show JC _ _ _ _ _ _ [(0, _)] _ [_, _]
  refine sR ?_
  refine oC ?_
  refine oC ?_
  refine nC (sR ?_)
  refine JO.mkslice (m := 1) (c := 6) Tryz.underlying22 elm5 ev_const ev_const rfl rfl (by decide) (by decide) (by decide) ?_
  intro b6
  refine oA ?_
  refine nC (JC.seq (sR ?_))
  refine oM ?_
  refine oM ?_
  refine JO.call (Evs.cons xe (Evs.cons xe Evs.nil)) (first_con G Z hZ i 0 r (by simpa using hd) b6) xpkE ?_
  rintro _
  show JO _ _ _ _ _ _ _ ((10, _) :: _) _ (_ :: _ :: _ :: _)
  refine oM ?_
  refine JO.py (Py.extrI xe xix) ?_
  refine JO.py (Py.extrI xe xix) ?_
  refine oA ?_
  refine nC (sR ?_)
  refine oM ?_
  first | refine JO.py (Py.neqNil Tryz.underlying70 xe rfl) ?_ | refine JO.py (Py.neqHeld Tryz.underlying70 xe rfl) ?_
  refine nC ?_
  refine cF ?_
  refine JC.skip (JX.code (sR ?_))
  refine oM ?_
  refine JO.py (Py.idxS Tryz.underlying22 siz5 xe ev_const (by omega) xidx xmult) ?_
  refine JO.py (Py.load scal5 xe xpick xrow) ?_
  refine JO.call (Evs.cons xe Evs.nil) (hct0v_con G) xpkE ?_
  rintro _
  show JO _ _ _ _ _ _ _ ((19, _) :: _) _ (_ :: _)
  refine oM ?_
  refine JO.py (Py.extrI xe xix) ?_
  refine JO.py (Py.extrI xe xix) ?_
  refine oA ?_
  refine oA ?_
  refine nC (JC.seq (sR ?_))
  refine oM ?_
  first | refine JO.py (Py.neqNil Tryz.underlying70 xe rfl) ?_ | refine JO.py (Py.neqHeld Tryz.underlying70 xe rfl) ?_
  refine nC ?_
  refine cF ?_
  refine JC.skip (JX.code (sR ?_))
  refine oM ?_
  refine oM ?_
  refine JO.call (Evs.cons xe Evs.nil) (hl0_con G) xpkE ?_
  rintro _
  show JO _ _ _ _ _ _ _ ((26, _) :: _) _ (_ :: _)
  refine JO.py (Py.slc (l := 0) (h := 1) (p := 0) (q := 1) (c := 6) Tryz.underlying22 siz5 xe Bd.none (Bd.some xe (by omega)) (by omega) (by omega) (by omega) (by omega) (by omega) (by omega)) ?_
  refine oA ?_
  refine nC (JC.seq (sR ?_))
  refine oM ?_
  refine oM ?_
  refine JO.py (Py.slc (l := 1) (h := 1) (p := 1) (q := 0) (c := 5) Tryz.underlying22 siz5 xe (Bd.some ev_const (by omega)) Bd.none (by omega) (by omega) (by omega) (by omega) (by omega) (by omega)) ?_
  refine JO.call (Evs.cons xe (Evs.cons xe Evs.nil)) (readFull0_con G Z.v (some ⟨b6, 1, none⟩) 5) xpkE ?_
  rintro _
  show JO _ _ _ _ _ _ _ ((32, _) :: _) _ (_ :: _)
  refine oM ?_
  refine JO.py (Py.extrI xe xix) ?_
  refine JO.py (Py.extrI xe xix) ?_
  refine oA ?_
  refine nC (sR ?_)
  refine oM ?_
  first | refine JO.py (Py.neqNil Tryz.underlying70 xe rfl) ?_ | refine JO.py (Py.neqHeld Tryz.underlying70 xe rfl) ?_
  refine nC ?_
  refine cF ?_
  refine JC.skip (JX.code (sR ?_))
  refine JO.allocA zer230 ?_; intro b37
  refine oA ?_
  refine nC (JC.seq (sR ?_))
  refine oM ?_
  refine oM ?_
  refine JO.call (Evs.cons xe (Evs.cons xe Evs.nil)) (unm0_con G b37 b6 (vu8 0) (vu8 0) (vu8 0) (vu8 0) (vu8 0)) xpkE ?_
  rintro _
  show JO _ _ _ _ _ _ _ ((40, _) :: _) _ (_ :: _ :: _ :: _)
  refine oA ?_
  refine nC (sR ?_)
  refine oM ?_
  first | refine JO.py (Py.neqNil Tryz.underlying70 xe rfl) ?_ | refine JO.py (Py.neqHeld Tryz.underlying70 xe rfl) ?_
  refine nC ?_
  refine cF ?_
  refine JC.skip (JX.code (sR ?_))
  refine oM ?_
  refine oA ?_
  refine oC ?_
  refine nC (JC.ret ?_)
  refine JX.end2 (Or.inl rfl) (b37) Tryz.results79 (tup2 ((xe).trans (by first | exact xval | (dsimp only; exact xval))) ((xe).trans (by first | exact xval | (dsimp only; exact xval)))) xpkE
set_option maxRecDepth 100000 in
set_option maxHeartbeats 2000000 in
theorem rh1_con (G : Gst) (Z : ZP) (hZ : Z.Ok) (x y : Nat) (h1 : x < 256) (h2 : y < 256) (i : Nat) (r : List Nat) (hd : Z.stream.drop i = [1, x, y] ++ r) : Con Tryz.prog G 79 #[Z.v] [Z.A i] (fun h : Nat => .tuple #[.pointer (some ⟨h, 0, none⟩), .nilIface]) (fun h => [HdrC h 1 (x * 256 + y) 0 0 0 0, Z.A (i + 3)]) := by
  have hd1 : Z.stream.drop (i + 1) = [x, y] ++ r := drop_add (l := [1]) hd rfl
  refine Con.intro Tryz.func79 rfl (by kernel_rfl) Tryz.ntmps79 (Nat.le_of_ble_eq_true rfl) ?_
  intro F
  show JC _ _ _ _ _ _ [(0, _)] _ [_, _]
  refine sR ?_
  refine oC ?_
  refine oC ?_
  refine nC (sR ?_)
  refine JO.mkslice (m := 1) (c := 6) Tryz.underlying22 elm5 ev_const ev_const rfl rfl (by decide) (by decide) (by decide) ?_
  intro b6
  refine oA ?_
  refine nC (JC.seq (sR ?_))
  refine oM ?_
  refine oM ?_
  refine JO.call (Evs.cons xe (Evs.cons xe Evs.nil)) (first_con G Z hZ i 1 ([x, y] ++ r) hd b6) xpkE ?_
  rintro _
  show JO _ _ _ _ _ _ _ ((10, _) :: _) _ (_ :: _ :: _ :: _)
  refine oM ?_
  refine JO.py (Py.extrI xe xix) ?_
  refine JO.py (Py.extrI xe xix) ?_
  refine oA ?_
  refine nC (sR ?_)
  refine oM ?_
  first | refine JO.py (Py.neqNil Tryz.underlying70 xe rfl) ?_ | refine JO.py (Py.neqHeld Tryz.underlying70 xe rfl) ?_
  refine nC ?_
  refine cF ?_
  refine JC.skip (JX.code (sR ?_))
  refine oM ?_
  refine JO.py (Py.idxS Tryz.underlying22 siz5 xe ev_const (by omega) xidx xmult) ?_
  refine JO.py (Py.load scal5 xe xpick xrow) ?_
  refine JO.call (Evs.cons xe Evs.nil) (hct1v_con G) xpkE ?_
  rintro _
  show JO _ _ _ _ _ _ _ ((19, _) :: _) _ (_ :: _)
  refine oM ?_
  refine JO.py (Py.extrI xe xix) ?_
  refine JO.py (Py.extrI xe xix) ?_
  refine oA ?_
  refine oA ?_
  refine nC (JC.seq (sR ?_))
  refine oM ?_
  first | refine JO.py (Py.neqNil Tryz.underlying70 xe rfl) ?_ | refine JO.py (Py.neqHeld Tryz.underlying70 xe rfl) ?_
  refine nC ?_
  refine cF ?_
  refine JC.skip (JX.code (sR ?_))
  refine oM ?_
  refine oM ?_
  refine JO.call (Evs.cons xe Evs.nil) (hl1_con G) xpkE ?_
  rintro _
  show JO _ _ _ _ _ _ _ ((26, _) :: _) _ (_ :: _)
  refine JO.py (Py.slc (l := 0) (h := 3) (p := 0) (q := 3) (c := 6) Tryz.underlying22 siz5 xe Bd.none (Bd.some xe (by omega)) (by omega) (by omega) (by omega) (by omega) (by omega) (by omega)) ?_
  refine oA ?_
  refine nC (JC.seq (sR ?_))
  refine oM ?_
  refine oM ?_
  refine JO.py (Py.slc (l := 1) (h := 3) (p := 1) (q := 2) (c := 5) Tryz.underlying22 siz5 xe (Bd.some ev_const (by omega)) Bd.none (by omega) (by omega) (by omega) (by omega) (by omega) (by omega)) ?_
  refine JO.call (Evs.cons xe (Evs.cons xe Evs.nil)) (more_con G Z hZ (i + 1) 2 b6 [x, y] r hd1 rfl (by decide) #[vu8 1, vu8 0, vu8 0, vu8 0, vu8 0, vu8 0] #[vu8 1, vu8 x, vu8 y, vu8 0, vu8 0, vu8 0] rfl rfl) xpkE ?_
  rintro _
  show JO _ _ _ _ _ _ _ ((32, _) :: _) _ (_ :: _ :: _ :: _)
  refine oM ?_
  refine JO.py (Py.extrI xe xix) ?_
  refine JO.py (Py.extrI xe xix) ?_
  refine oA ?_
  refine nC (sR ?_)
  refine oM ?_
  first | refine JO.py (Py.neqNil Tryz.underlying70 xe rfl) ?_ | refine JO.py (Py.neqHeld Tryz.underlying70 xe rfl) ?_
  refine nC ?_
  refine cF ?_
  refine JC.skip (JX.code (sR ?_))
  refine JO.allocA zer230 ?_; intro b37
  refine oA ?_
  refine nC (JC.seq (sR ?_))
  refine oM ?_
  refine oM ?_
  refine JO.call (Evs.cons xe (Evs.cons xe Evs.nil)) (unm1_con G b37 b6 x y h1 h2 (vu8 0) (vu8 0) (vu8 0)) xpkE ?_
  rintro _
  show JO _ _ _ _ _ _ _ ((40, _) :: _) _ (_ :: _ :: _ :: _)
  refine oA ?_
  refine nC (sR ?_)
  refine oM ?_
  first | refine JO.py (Py.neqNil Tryz.underlying70 xe rfl) ?_ | refine JO.py (Py.neqHeld Tryz.underlying70 xe rfl) ?_
  refine nC ?_
  refine cF ?_
  refine JC.skip (JX.code (sR ?_))
  refine oM ?_
  refine oA ?_
  refine oC ?_
  refine nC (JC.ret ?_)
  refine JX.end2 (Or.inl rfl) (b37) Tryz.results79 (tup2 ((xe).trans (by first | exact xval | (dsimp only; exact xval))) ((xe).trans (by first | exact xval | (dsimp only; exact xval)))) xpkE
set_option maxRecDepth 100000 in
set_option maxHeartbeats 2000000 in
theorem rh6_con (G : Gst) (Z : ZP) (hZ : Z.Ok) (c : Cfg) (hc : c.Ok) (x y z w q : Nat) (h1 : x < 256) (h2 : y < 256) (h3 : z < 256) (h4 : w < 256) (hq : q = c.lc + 9 * (c.lp + 5 * c.pb)) (i : Nat) (r : List Nat) (hd : Z.stream.drop i = [224, x, y, z, w, q] ++ r) : Con Tryz.prog G 79 #[Z.v] [Z.A i] (fun h : Nat => .tuple #[.pointer (some ⟨h, 0, none⟩), .nilIface]) (fun h => [HdrC h 6 (x * 256 + y) (z * 256 + w) c.lc c.lp c.pb, Z.A (i + 6)]) := by
  have hd1 : Z.stream.drop (i + 1) = [x, y, z, w, q] ++ r := drop_add (l := [224]) hd rfl
  refine Con.intro Tryz.func79 rfl (by kernel_rfl) Tryz.ntmps79 (Nat.le_of_ble_eq_true rfl) ?_
  intro F
  show JC _ _ _ _ _ _ [(0, _)] _ [_, _]
  refine sR ?_
  refine oC ?_
  refine oC ?_
  refine nC (sR ?_)
  refine JO.mkslice (m := 1) (c := 6) Tryz.underlying22 elm5 ev_const ev_const rfl rfl (by decide) (by decide) (by decide) ?_
  intro b6
  refine oA ?_
  refine nC (JC.seq (sR ?_))
  refine oM ?_
  refine oM ?_
  refine JO.call (Evs.cons xe (Evs.cons xe Evs.nil)) (first_con G Z hZ i 224 ([x, y, z, w, q] ++ r) hd b6) xpkE ?_
  rintro _
  show JO _ _ _ _ _ _ _ ((10, _) :: _) _ (_ :: _ :: _ :: _)
  refine oM ?_
  refine JO.py (Py.extrI xe xix) ?_
  refine JO.py (Py.extrI xe xix) ?_
  refine oA ?_
  refine nC (sR ?_)
  refine oM ?_
  first | refine JO.py (Py.neqNil Tryz.underlying70 xe rfl) ?_ | refine JO.py (Py.neqHeld Tryz.underlying70 xe rfl) ?_
  refine nC ?_
  refine cF ?_
  refine JC.skip (JX.code (sR ?_))
  refine oM ?_
  refine JO.py (Py.idxS Tryz.underlying22 siz5 xe ev_const (by omega) xidx xmult) ?_
  refine JO.py (Py.load scal5 xe xpick xrow) ?_
  refine JO.call (Evs.cons xe Evs.nil) (hct6v_con G) xpkE ?_
  rintro _
  show JO _ _ _ _ _ _ _ ((19, _) :: _) _ (_ :: _)
  refine oM ?_
  refine JO.py (Py.extrI xe xix) ?_
  refine JO.py (Py.extrI xe xix) ?_
  refine oA ?_
  refine oA ?_
  refine nC (JC.seq (sR ?_))
  refine oM ?_
  first | refine JO.py (Py.neqNil Tryz.underlying70 xe rfl) ?_ | refine JO.py (Py.neqHeld Tryz.underlying70 xe rfl) ?_
  refine nC ?_
  refine cF ?_
  refine JC.skip (JX.code (sR ?_))
  refine oM ?_
  refine oM ?_
  refine JO.call (Evs.cons xe Evs.nil) (hl6_con G) xpkE ?_
  rintro _
  show JO _ _ _ _ _ _ _ ((26, _) :: _) _ (_ :: _)
  refine JO.py (Py.slc (l := 0) (h := 6) (p := 0) (q := 6) (c := 6) Tryz.underlying22 siz5 xe Bd.none (Bd.some xe (by omega)) (by omega) (by omega) (by omega) (by omega) (by omega) (by omega)) ?_
  refine oA ?_
  refine nC (JC.seq (sR ?_))
  refine oM ?_
  refine oM ?_
  refine JO.py (Py.slc (l := 1) (h := 6) (p := 1) (q := 5) (c := 5) Tryz.underlying22 siz5 xe (Bd.some ev_const (by omega)) Bd.none (by omega) (by omega) (by omega) (by omega) (by omega) (by omega)) ?_
  refine JO.call (Evs.cons xe (Evs.cons xe Evs.nil)) (more_con G Z hZ (i + 1) 5 b6 [x, y, z, w, q] r hd1 rfl (by decide) #[vu8 224, vu8 0, vu8 0, vu8 0, vu8 0, vu8 0] #[vu8 224, vu8 x, vu8 y, vu8 z, vu8 w, vu8 q] rfl rfl) xpkE ?_
  rintro _
  show JO _ _ _ _ _ _ _ ((32, _) :: _) _ (_ :: _ :: _ :: _)
  refine oM ?_
  refine JO.py (Py.extrI xe xix) ?_
  refine JO.py (Py.extrI xe xix) ?_
  refine oA ?_
  refine nC (sR ?_)
  refine oM ?_
  first | refine JO.py (Py.neqNil Tryz.underlying70 xe rfl) ?_ | refine JO.py (Py.neqHeld Tryz.underlying70 xe rfl) ?_
  refine nC ?_
  refine cF ?_
  refine JC.skip (JX.code (sR ?_))
  refine JO.allocA zer230 ?_; intro b37
  refine oA ?_
  refine nC (JC.seq (sR ?_))
  refine oM ?_
  refine oM ?_
  refine JO.call (Evs.cons xe (Evs.cons xe Evs.nil)) (unm6_con G c hc b37 b6 x y z w q h1 h2 h3 h4 hq) xpkE ?_
  rintro _
  show JO _ _ _ _ _ _ _ ((40, _) :: _) _ (_ :: _ :: _ :: _)
  refine oA ?_
  refine nC (sR ?_)
  refine oM ?_
  first | refine JO.py (Py.neqNil Tryz.underlying70 xe rfl) ?_ | refine JO.py (Py.neqHeld Tryz.underlying70 xe rfl) ?_
  refine nC ?_
  refine cF ?_
  refine JC.skip (JX.code (sR ?_))
  refine oM ?_
  refine oA ?_
  refine oC ?_
  refine nC (JC.ret ?_)
  refine JX.end2 (Or.inl rfl) (b37) Tryz.results79 (tup2 ((xe).trans (by first | exact xval | (dsimp only; exact xval))) ((xe).trans (by first | exact xval | (dsimp only; exact xval)))) xpkE
end Go.Proofs.YtfpepghmbeoanaaGreatDoor
end

section
open Go Go.RowKit
namespace Go.Proofs.YtfpepghmbeoanaaGreatDoor
open Lz
section
variable {P : Program} {G : Gst} {n : Nat} {base : Nat → Value} {L : List (Nat × Value)} {As r : List Asn}
theorem Py.asP {xt at_ e : TypeId} {x : Operand} {v : Value} (hu : P.underlying at_ = some (.pointer e)) (hx : ev n base L x = .iface at_ v) : Py P G n base L As (.typeAssert x xt at_ true) (.tuple #[v, .bool true]) := by
  refine ⟨fun w _ o ho => ?_⟩
  simp [execOp, ho, hx, Instr.typeAssert, run_underlying hu]
end
theorem mth187W (p : Value) : Mth Tryz.prog 187 p "Write" 233 p := fun w => by kernel_rfl
theorem nil187 (a : Addr) : NilA Tryz.prog 187 (.pointer (some a)) "Write" := fun w => by kernel_rfl
theorem wt285 : (Tryz.prog.info? 285).map (fun i => (lacking #[("WriteTo", 378)] i.methods).isEmpty) = some false := by kernel_rfl
theorem rf187 : (Tryz.prog.info? 187).map (fun i => (lacking #[("ReadFrom", 382)] i.methods).isEmpty) = some false := by kernel_rfl
theorem zero376 : (Tryz.prog.info? 376).map (·.zero) = some (some .nilIface) := by kernel_rfl
theorem zero380 : (Tryz.prog.info? 380).map (·.zero) = some (some .nilIface) := by kernel_rfl
set_option maxRecDepth 100000 in
theorem bufWriteX_con (G : Gst) (dd db n fr re hd pb po m mc : Nat) (ps : Array Value) (all : List Nat) (hn : n ≤ 100000) (h : re ≤ fr ∧ fr + m < n) (heq : ∀ j, j < m → ps[po + j]? = some (vu8 (all.getD (fr + j) 0))) :
    Con Tryz.prog G 182 #[.pointer (some ⟨dd, 0, none⟩), .slice (some ⟨pb, po, none⟩) m mc] [DictC dd db n fr re hd, DictD db all fr n, cel pb 5 ps] (fun _ : Unit => .tuple #[.int .i64 (m : Int), .nilIface]) (fun _ => [DictC dd db n (fr + m) re hd, DictD db all (fr + m) n, cel pb 5 ps]) := by
  have hr : ∀ j v, (piece all fr m)[j]? = some v → ps[po + j]? = some v := fun j v h => by obtain ⟨hj, rfl⟩ := piece_get h; exact heq j hj
  refine Con.intro Tryz.func182 rfl (by kernel_rfl) Tryz.ntmps182 (Nat.le_of_ble_eq_true rfl) ?_
  intro F
  show JC _ _ _ _ _ _ [(0, _), (1, _)] _ [_, _, _, _]
  refine sR ?_
  refine oC ?_
  refine oC ?_
  refine nC (sR ?_)
  refine oM ?_
  refine JO.call (Evs.cons xe Evs.nil) (avail_con G dd db n fr re hd hn (by omega)) xpkE ?_
  rintro _
  show JO _ _ _ _ _ _ _ ((9, _) :: _) _ (_ :: _ :: _)
  refine oA ?_
  refine nC (sR ?_)
  refine oM ?_
  refine JO.py (Py.lenS Tryz.underlying22 xe) ?_
  refine oA ?_
  refine nC (JC.seq (sR ?_))
  refine oM ?_
  refine oM ?_
  first | refine oD (Py.lss xe xe) ?_ | refine oU (Py.lss xe xe) ?_ | refine JO.py (Py.lss xe xe) ?_
  refine nC ?_
  refine cF ?_
  refine JC.skip (JX.code (JC.seq ?_))
  refine JC.regionM [(0, true), (1, true), (2, true), (3, true), (4, true), (5, true), (6, true), (7, true), (8, true), (9, true), (10, false), (11, true)] mixed (by kernel_rfl) ?_
  refine JM.py ao ⟨fun _ => Py.move xe⟩ ?_
  first | refine JM.py ao ⟨fun _ => Py.nil xe⟩ ?_ | refine JM.py ao ⟨fun _ => Py.nilI xe⟩ ?_
  refine JM.py ao ⟨fun _ => Py.fld fld219_0 xe xoff⟩ ?_
  refine JM.ld ao scal22 xe xpick xrow ?_
  refine JM.py ao ⟨fun _ => Py.move xe⟩ ?_
  first | refine JM.py ao ⟨fun _ => Py.nil xe⟩ ?_ | refine JM.py ao ⟨fun _ => Py.nilI xe⟩ ?_
  refine JM.py ao ⟨fun _ => Py.fld fld219_1 xe xoff⟩ ?_
  refine JM.ld ao scal3 xe xpick xrow ?_
  refine JM.py ao ⟨fun _ => Py.slc (l := fr) (h := n) (p := fr) (q := n - fr) (c := n - fr) Tryz.underlying22 siz5 xe (Bd.some xe (by omega)) Bd.none (by omega) (by omega) (by omega) (by omega) (by omega) (by omega)⟩ ?_
  refine JM.py ao ⟨fun _ => Py.move xe⟩ ?_
  refine JM.eff ao ?_
  refine JO.copy (news := piece all fr m) (cs' := dch all (fr + m) n) Tryz.underlying22 info5 xe xe (piece_len all fr m) (by omega) xpick (Reads.cel (b := pb) (o := po) (ss := ps) xpick hr) (by rw [dch_size]; omega) (piece_one all fr m) (dch_copy (by omega)) ?_
  refine JO.nil ?_
  refine JX.mix (Kept.drop (Forced.trans (q := 8) (Forced.step (by kernel_rfl)) (Forced.step (by kernel_rfl))) (Kept.drop (Forced.trans (q := 8) (Forced.step (by kernel_rfl)) (Forced.step (by kernel_rfl))) Kept.nil)) ?_
  refine JM.py ao ⟨fun _ => Py.assign xe⟩ ?_
  refine JM.nil (JX.code (JC.seq (sR ?_)))
  refine oM ?_
  refine oM ?_
  first | refine oD (Py.lss xe xe) ?_ | refine oU (Py.lss xe xe) ?_ | refine JO.py (Py.lss xe xe) ?_
  refine nC ?_
  refine cF ?_
  refine JC.skip (JX.code (sR ?_))
  refine oM ?_
  refine oM ?_
  refine oM ?_
  first | refine JO.py (Py.nil xe) ?_ | refine JO.py (Py.nilI xe) ?_
  refine JO.py (Py.fld fld219_1 xe xoff) ?_
  refine JO.py (Py.load scal3 xe xpick xrow) ?_
  refine oM ?_
  refine JO.call (Evs.cons xe (Evs.cons xe (Evs.cons xe Evs.nil))) (addIndex_con G dd db n fr re hd fr m hn (by omega)) xpkE ?_
  rintro _
  show JO _ _ _ _ _ _ _ ((49, _) :: _) _ (_ :: _ :: _)
  first | refine JO.py (Py.nil xe) ?_ | refine JO.py (Py.nilI xe) ?_
  refine JO.py (Py.fld fld219_1 xe xoff) ?_
  refine JO.store siz3 xe xe (by first | rfl | assumption) xpick xsize xnorm ?_
  refine nC (sR ?_)
  refine oM ?_
  refine oM ?_
  refine oA ?_
  refine oA ?_
  refine nC (JC.ret ?_)
  refine JX.end2 (Or.inl rfl) (()) Tryz.results182 (tup2 ((xe).trans (by first | exact xval | (dsimp only; exact xval))) ((xe).trans (by first | exact xval | (dsimp only; exact xval)))) xpkE
theorem dictWrite_con (G : Gst) (dd db n fr re hd pb po m mc : Nat) (ps : Array Value) (all : List Nat) (hn : n ≤ 100000) (hh : hd ≤ 100000) (h : re ≤ fr ∧ fr + m < n) (heq : ∀ j, j < m → ps[po + j]? = some (vu8 (all.getD (fr + j) 0))) :
    Con Tryz.prog G 233 #[.pointer (some ⟨dd, 0, none⟩), .slice (some ⟨pb, po, none⟩) m mc] [DictC dd db n fr re hd, DictD db all fr n, cel pb 5 ps] (fun _ : Unit => .tuple #[.int .i64 (m : Int), .nilIface]) (fun _ => [DictC dd db n (fr + m) re (hd + m), DictD db all (fr + m) n, cel pb 5 ps]) := by
  refine Con.intro Tryz.func233 rfl (by kernel_rfl) Tryz.ntmps233 (Nat.le_of_ble_eq_true rfl) ?_
  intro F
  show JC _ _ _ _ _ _ [(0, _), (1, _)] _ [_, _, _, _]
  refine sR ?_
  refine oC ?_
  refine oC ?_
  refine nC (sR ?_)
  refine oM ?_
  first | refine JO.py (Py.nil xe) ?_ | refine JO.py (Py.nilI xe) ?_
  refine JO.py (Py.fld fld223_0 xe xoff) ?_
  refine oM ?_
  refine JO.call (Evs.cons xe (Evs.cons xe Evs.nil)) (bufWriteX_con G dd db n fr re hd pb po m mc ps all hn h heq) xpkE ?_
  rintro _
  show JO _ _ _ _ _ _ _ ((11, _) :: _) _ (_ :: _ :: _ :: _ :: _)
  refine oM ?_
  refine JO.py (Py.extrI xe xix) ?_
  refine JO.py (Py.extrI xe xix) ?_
  refine oA ?_
  refine oA ?_
  refine nC (sR ?_)
  refine oM ?_
  first | refine JO.py (Py.nil xe) ?_ | refine JO.py (Py.nilI xe) ?_
  refine JO.py (Py.fld fld223_1 xe xoff) ?_
  refine JO.py (Py.load scal2 xe xpick xrow) ?_
  refine oM ?_
  refine JO.py (Py.add xe xe wI) ?_
  first | refine JO.py (Py.nil xe) ?_ | refine JO.py (Py.nilI xe) ?_
  refine JO.py (Py.fld fld223_1 xe xoff) ?_
  refine JO.store siz2 xe xe (by first | rfl | assumption) xpick xsize xnorm ?_
  refine nC (sR ?_)
  refine oM ?_
  refine oM ?_
  refine oA ?_
  refine oA ?_
  refine nC (JC.ret ?_)
  refine JX.end2 (Or.inl rfl) (()) Tryz.results233 (tup2 ((xe).trans (by first | exact xval | (dsimp only; exact xval))) ((xe).trans (by first | exact xval | (dsimp only; exact xval)))) xpkE
theorem splice_head {ps : Array Value} {news : List Value} {j : Nat} (h : j < news.length) : (splice ps 0 news)[j]? = news[j]? := by
  unfold splice
  simp [List.getElem?_append, h]
theorem lim2_con (G : Gst) (Z : ZP) (hZ : Z.Ok) (l u : Nat) (T : TypeId) (tl : List Value) (N B i pb : Nat) (ps : Array Value) (hN : 0 < N) (hi : i + N ≤ Z.m) (hNB : N ≤ 32768) (hB : 32768 ≤ B ∧ B ≤ 100000) (hp : ps.size = 32768) :
    Con Tryz.prog G 246 #[.pointer (some ⟨l, 0, none⟩), .slice (some ⟨pb, 0, none⟩) 32768 32768] [cel l 282 #[.iface 285 (.pointer (some ⟨u, 0, none⟩)), .int .i64 (B : Int)], cel u T (Z.v :: .int .i64 (N : Int) :: tl).toArray, Z.A i, cel pb 5 ps] (fun _ : Unit => .tuple #[.int .i64 (N : Int), .nilIface])
      (fun _ => [cel l 282 #[.iface 285 (.pointer (some ⟨u, 0, none⟩)), .int .i64 ((B - N : Nat) : Int)], cel u T (Z.v :: .int .i64 0 :: tl).toArray, Z.A (i + N), cel pb 5 (splice ps 0 (piece Z.stream i N))]) := by
  have hm := mth285R (.pointer (some ⟨u, 0, none⟩))
  have h := limRead_con G Z hZ u T tl N i pb 0 32768 32768 N ps hN hi (by decide) (by omega) (by omega)
  rw [Nat.sub_self] at h
  refine Con.intro Tryz.func246 rfl (by kernel_rfl) Tryz.ntmps246 (Nat.le_of_ble_eq_true rfl) ?_
  intro F
  show JC _ _ _ _ _ _ [(0, _), (1, _)] _ [_, _, _, _, _]
  refine sR ?_
  refine oC ?_
  refine oC ?_
  refine nC (JC.seq (sR ?_))
  refine oM ?_
  first | refine JO.py (Py.nil xe) ?_ | refine JO.py (Py.nilI xe) ?_
  refine JO.py (Py.fld fld282_1 xe xoff) ?_
  refine JO.py (Py.load scal2 xe xpick xrow) ?_
  first | refine oD (Py.leq xe ev_const) ?_ | refine oU (Py.leq xe ev_const) ?_ | refine JO.py (Py.leq xe ev_const) ?_
  refine nC ?_
  refine cF ?_
  refine JC.skip (JX.code (JC.seq (sR ?_)))
  refine oM ?_
  refine JO.py (Py.lenS Tryz.underlying22 xe) ?_
  refine oM ?_
  first | refine JO.py (Py.nil xe) ?_ | refine JO.py (Py.nilI xe) ?_
  refine JO.py (Py.fld fld282_1 xe xoff) ?_
  refine JO.py (Py.load scal2 xe xpick xrow) ?_
  first | refine oD (Py.gtr xe xe) ?_ | refine oU (Py.gtr xe xe) ?_ | refine JO.py (Py.gtr xe xe) ?_
  refine nC ?_
  refine cF ?_
  refine JC.skip (JX.code (sR ?_))
  refine oM ?_
  first | refine JO.py (Py.nil xe) ?_ | refine JO.py (Py.nilI xe) ?_
  refine JO.py (Py.fld fld282_0 xe xoff) ?_
  refine JO.py (Py.load scal113 xe xpick xrow) ?_
  refine oM ?_
  refine JO.invoke xe (Evs.cons xe Evs.nil) (hm) h xpkE ?_
  rintro _
  show JO _ _ _ _ _ _ _ ((31, _) :: _) _ (_ :: _ :: _ :: _ :: _)
  refine oM ?_
  refine JO.py (Py.extrI xe xix) ?_
  refine JO.py (Py.extrI xe xix) ?_
  refine oA ?_
  refine oA ?_
  refine nC (sR ?_)
  refine oM ?_
  first | refine JO.py (Py.nil xe) ?_ | refine JO.py (Py.nilI xe) ?_
  refine JO.py (Py.fld fld282_1 xe xoff) ?_
  refine JO.py (Py.load scal2 xe xpick xrow) ?_
  refine oM ?_
  refine JO.py (Py.sub xe xe wI) ?_
  first | refine JO.py (Py.nil xe) ?_ | refine JO.py (Py.nilI xe) ?_
  refine JO.py (Py.fld fld282_1 xe xoff) ?_
  refine JO.store siz2 xe xe (by first | rfl | assumption) xpick xsize xnorm ?_
  refine nC (JC.ret ?_)
  refine JX.end2 (Or.inl rfl) (()) Tryz.results246 (tup2 ((xe).trans (by first | exact xval | (dsimp only; exact xval))) ((xe).trans (by first | exact xval | (dsimp only; exact xval)))) xpkE
theorem lim2E_con (G : Gst) (l u : Nat) (T : TypeId) (R : Value) (tl : List Value) (B : Nat) (pb : Nat) (hB : 32768 ≤ B ∧ B ≤ 100000) (ea : Addr) (eT : TypeId) (ef : Nat × Nat) :
    Con Tryz.prog G 246 #[.pointer (some ⟨l, 0, none⟩), .slice (some ⟨pb, 0, none⟩) 32768 32768] [cel l 282 #[.iface 285 (.pointer (some ⟨u, 0, none⟩)), .int .i64 (B : Int)], cel u T (R :: .int .i64 0 :: tl).toArray, EofA ea eT ef] (fun _ : Unit => .tuple #[.int .i64 0, eofV ea])
      (fun _ => [cel l 282 #[.iface 285 (.pointer (some ⟨u, 0, none⟩)), .int .i64 (B : Int)], cel u T (R :: .int .i64 0 :: tl).toArray, EofA ea eT ef]) := by
  have hm := mth285R (.pointer (some ⟨u, 0, none⟩))
  refine Con.intro Tryz.func246 rfl (by kernel_rfl) Tryz.ntmps246 (Nat.le_of_ble_eq_true rfl) ?_
  intro F
  show JC _ _ _ _ _ _ [(0, _), (1, _)] _ [_, _, _, _]
  refine sR ?_
  refine oC ?_
  refine oC ?_
  refine nC (JC.seq (sR ?_))
  refine oM ?_
  first | refine JO.py (Py.nil xe) ?_ | refine JO.py (Py.nilI xe) ?_
  refine JO.py (Py.fld fld282_1 xe xoff) ?_
  refine JO.py (Py.load scal2 xe xpick xrow) ?_
  first | refine oD (Py.leq xe ev_const) ?_ | refine oU (Py.leq xe ev_const) ?_ | refine JO.py (Py.leq xe ev_const) ?_
  refine nC ?_
  refine cF ?_
  refine JC.skip (JX.code (JC.seq (sR ?_)))
  refine oM ?_
  refine JO.py (Py.lenS Tryz.underlying22 xe) ?_
  refine oM ?_
  first | refine JO.py (Py.nil xe) ?_ | refine JO.py (Py.nilI xe) ?_
  refine JO.py (Py.fld fld282_1 xe xoff) ?_
  refine JO.py (Py.load scal2 xe xpick xrow) ?_
  first | refine oD (Py.gtr xe xe) ?_ | refine oU (Py.gtr xe xe) ?_ | refine JO.py (Py.gtr xe xe) ?_
  refine nC ?_
  refine cF ?_
  refine JC.skip (JX.code (sR ?_))
  refine oM ?_
  first | refine JO.py (Py.nil xe) ?_ | refine JO.py (Py.nilI xe) ?_
  refine JO.py (Py.fld fld282_0 xe xoff) ?_
  refine JO.py (Py.load scal113 xe xpick xrow) ?_
  refine oM ?_
  refine JO.invoke xe (Evs.cons xe Evs.nil) (hm) (limReadE_con G u T R (.slice (some ⟨pb, 0, none⟩) 32768 32768) tl ea eT ef) xpkE ?_
  rintro _
  show JO _ _ _ _ _ _ _ ((31, _) :: _) _ (_ :: _ :: _ :: _)
  refine oM ?_
  refine JO.py (Py.extrI xe xix) ?_
  refine JO.py (Py.extrI xe xix) ?_
  refine oA ?_
  refine oA ?_
  refine nC (sR ?_)
  refine oM ?_
  first | refine JO.py (Py.nil xe) ?_ | refine JO.py (Py.nilI xe) ?_
  refine JO.py (Py.fld fld282_1 xe xoff) ?_
  refine JO.py (Py.load scal2 xe xpick xrow) ?_
  refine oM ?_
  refine JO.py (Py.sub xe xe wI) ?_
  first | refine JO.py (Py.nil xe) ?_ | refine JO.py (Py.nilI xe) ?_
  refine JO.py (Py.fld fld282_1 xe xoff) ?_
  refine JO.store siz2 xe xe (by first | rfl | assumption) xpick xsize xnorm ?_
  refine nC (JC.ret ?_)
  refine JX.end2 (Or.inl rfl) (()) Tryz.results246 (tup2 ((xe).trans (by first | exact xval | (dsimp only; exact xval))) ((xe).trans (by first | exact xval | (dsimp only; exact xval)))) xpkE
set_option maxRecDepth 100000 in
set_option maxHeartbeats 4000000 in
theorem copyB_con (G : Gst) (Z : ZP) (hZ : Z.Ok) (l u dd db n fr re hd : Nat) (T : TypeId) (tl : List Value) (N i : Nat) (all : List Nat) (hN : 0 < N ∧ N ≤ 3000) (hi : i + N ≤ Z.m) (hn : n ≤ 100000) (hh : hd ≤ 100000) (h : re ≤ fr ∧ fr + N < n) (heq : ∀ j, j < N → Z.stream.getD (i + j) 0 = all.getD (fr + j) 0) (ea : Addr) (eT : TypeId) (ef : Nat × Nat) :
    Con Tryz.prog G 230 #[.iface 187 (.pointer (some ⟨dd, 0, none⟩)), .iface 285 (.pointer (some ⟨l, 0, none⟩)), .slice none 0 0] [cel l 282 #[.iface 285 (.pointer (some ⟨u, 0, none⟩)), .int .i64 65536], cel u T (Z.v :: .int .i64 (N : Int) :: tl).toArray, Z.A i, DictC dd db n fr re hd, DictD db all fr n, EofA ea eT ef]
      (fun _ : Unit => .tuple #[.int .i64 (N : Int), .nilIface]) (fun _ => [cel u T (Z.v :: .int .i64 0 :: tl).toArray, Z.A (i + N), DictC dd db n (fr + N) re (hd + N), DictD db all (fr + N) n, EofA ea eT ef]) := by
  have hm := mth285R (.pointer (some ⟨l, 0, none⟩))
  have hw := mth187W (.pointer (some ⟨dd, 0, none⟩))
  refine Con.intro Tryz.func230 rfl (by kernel_rfl) Tryz.ntmps230 (Nat.le_of_ble_eq_true rfl) ?_
  intro F
  show JC _ _ _ _ _ _ [(0, _), (1, _), (2, _)] _ [_, _, _, _, _, _, _]
  refine sR ?_
  refine oC ?_
  refine oC ?_
  refine nC (JC.seq (sR ?_))
  refine oM ?_
  refine JO.py (Py.asN Tryz.underlying376 wt285 zero376 xe) ?_
  refine oM ?_
  refine JO.py (Py.extrI xe xix) ?_
  refine JO.py (Py.extrI xe xix) ?_
  refine oA ?_
  refine oA ?_
  refine nC (sR ?_)
  refine oM ?_
  refine nC ?_
  refine cF ?_
  refine JC.skip (JX.code (JC.seq (sR ?_)))
  refine oM ?_
  refine JO.py (Py.asN Tryz.underlying380 rf187 zero380 xe) ?_
  refine oM ?_
  refine JO.py (Py.extrI xe xix) ?_
  refine JO.py (Py.extrI xe xix) ?_
  refine oA ?_
  refine oA ?_
  refine nC (sR ?_)
  refine oM ?_
  refine nC ?_
  refine cF ?_
  refine JC.skip (JX.code (JC.seq (sR ?_)))
  refine oM ?_
  refine JO.py (Py.to (v' := .bool true) (Py.eqlSN Tryz.underlying22 xe) rfl) ?_
  refine nC ?_
  refine cT ?_
  refine sR ?_
  refine oC ?_
  refine nC (JC.seq (sR ?_))
  refine oM ?_
  refine JO.py (Py.asP Tryz.underlying285 xe) ?_
  refine oM ?_
  refine JO.py (Py.extrI xe xix) ?_
  refine JO.py (Py.extrI xe xix) ?_
  refine oA ?_
  refine oA ?_
  refine nC (sR ?_)
  refine oM ?_
  refine oM ?_
  first | (refine gT ?_; (refine oM ?_)) | refine kF ?_
  first | (refine gT ?_; (refine oM ?_)) | refine kF ?_
  first | (refine gT ?_; (first | refine JO.py (Py.nil xe) ?_ | refine JO.py (Py.nilI xe) ?_)) | refine kF ?_
  first | (refine gT ?_; (refine JO.py (Py.fld fld282_1 xe xoff) ?_)) | refine kF ?_
  first | (refine gT ?_; (refine JO.py (Py.load scal2 xe xpick xrow) ?_)) | refine kF ?_
  first | (refine gT ?_; (first | refine oD (Py.gtr xe xe) ?_ | refine oU (Py.gtr xe xe) ?_ | refine JO.py (Py.gtr xe xe) ?_)) | refine kF ?_
  first | refine JO.py (Py.pickT xe xe) ?_ | refine JO.py (Py.pickF xe ev_const) ?_
  refine nC ?_
  refine cF ?_
  refine JC.skip (JX.code (JC.region ?_))
  refine oM ?_
  refine JO.mkslice (m := 32768) (c := 32768) Tryz.underlying22 elm5 xe xe (by omega) (by omega) (by omega) (by omega) (by omega) ?_
  intro b67
  refine oA ?_
  refine nC (JC.seq (JC.block ?_))
  refine JC.unroll 1 ?_
  refine JC.block (sR ?_)
  refine oM ?_
  refine oM ?_
  refine JO.invoke xe (Evs.cons xe Evs.nil) (hm) (lim2_con G Z hZ l u T tl N 65536 i b67 (Array.replicate 32768 (.int .u8 0)) hN.1 hi (by omega) (by decide) (by simp)) xpkE ?_
  rintro _
  show JO _ _ _ _ _ _ _ ((71, _) :: _) _ (_ :: _ :: _ :: _ :: _ :: _)
  obtain ⟨ps, hps⟩ : ∃ ps, splice (Array.replicate 32768 (Value.int .u8 0)) 0 (piece Z.stream i N) = ps := ⟨_, rfl⟩
  have hpe : ∀ j, j < N → ps[0 + j]? = some (vu8 (all.getD (fr + j) 0)) := by
    intro j hj
    rw [← hps, Nat.zero_add, ← heq j hj, splice_head (by rw [piece_len]; exact hj)]
    simp [piece, hj]
  rw [hps]
  refine oM ?_
  refine JO.py (Py.extrI xe xix) ?_
  refine JO.py (Py.extrI xe xix) ?_
  refine oA ?_
  refine oA ?_
  refine nC (JC.seq (sR ?_))
  refine oM ?_
  first | refine oD (Py.gtr xe ev_const) ?_ | refine oU (Py.gtr xe ev_const) ?_ | refine JO.py (Py.gtr xe ev_const) ?_
  refine nC ?_
  refine cT ?_
  refine JC.seq ?_
  refine JC.regionM [(0, true), (1, true), (2, true), (3, true), (4, true), (5, true), (6, true), (7, false), (8, true), (9, true), (10, true), (11, true), (12, true)] mixed (by kernel_rfl) ?_
  refine JM.py ao ⟨fun _ => Py.move xe⟩ ?_
  refine JM.py ao ⟨fun _ => Py.move xe⟩ ?_
  refine JM.py ao ⟨fun _ => Py.move xe⟩ ?_
  refine JM.py ao ⟨fun _ => Py.slc (l := 0) (h := N) (p := 0) (q := N) (c := 32768) Tryz.underlying22 siz5 xe (Bd.some ev_const (by omega)) (Bd.some xe (by omega)) (by omega) (by omega) (by omega) (by omega) (by omega) (by omega)⟩ ?_
  refine JM.py ao ⟨fun _ => Py.mkM xe⟩ ?_
  refine JM.py ao ⟨fun _ => Py.nilM xe (nil187 _)⟩ ?_
  refine JM.py ao ⟨fun _ => Py.move xe⟩ ?_
  refine JM.eff ao ?_
  refine JO.invoke xe (Evs.cons xe Evs.nil) (hw) (dictWrite_con G dd db n fr re hd b67 0 N 32768 ps all hn hh h hpe) xpkE ?_
  rintro _
  show JO _ _ _ _ _ _ _ ((84, _) :: _) _ (_ :: _ :: _ :: _ :: _)
  refine JO.nil ?_
  refine JX.mix Kept.nil ?_
  refine JM.py ao ⟨fun _ => Py.move xe⟩ ?_
  refine JM.py ao ⟨fun _ => Py.extrI xe xix⟩ ?_
  refine JM.py ao ⟨fun _ => Py.extrI xe xix⟩ ?_
  refine JM.py ao ⟨fun _ => Py.assign xe⟩ ?_
  refine JM.py ao ⟨fun _ => Py.assign xe⟩ ?_
  refine JM.nil (JX.code (JC.seq (sR ?_)))
  refine oM ?_
  first | refine oD (Py.lss xe ev_const) ?_ | refine oU (Py.lss xe ev_const) ?_ | refine JO.py (Py.lss xe ev_const) ?_
  refine oM ?_
  first | (refine gF ?_; (refine oM ?_)) | refine kT ?_
  first | (refine gF ?_; (refine oM ?_)) | refine kT ?_
  first | (refine gF ?_; (first | refine oD (Py.lss xe xe) ?_ | refine oU (Py.lss xe xe) ?_ | refine JO.py (Py.lss xe xe) ?_)) | refine kT ?_
  first | refine JO.py (Py.pickT xe ev_const) ?_ | refine JO.py (Py.pickF xe xe) ?_
  refine nC ?_
  refine cF ?_
  refine JC.skip (JX.code (sR ?_))
  refine oM ?_
  refine oM ?_
  refine JO.py (Py.add xe xe wI) ?_
  refine oA ?_
  refine nC (JC.seq (sR ?_))
  refine oM ?_
  first | refine JO.py (Py.neqNil Tryz.underlying70 xe rfl) ?_ | refine JO.py (Py.neqHeld Tryz.underlying70 xe rfl) ?_
  refine nC ?_
  refine cF ?_
  refine JC.skip (JX.code (sR ?_))
  refine oM ?_
  refine oM ?_
  first | refine oD (Py.neq xe xe) ?_ | refine oU (Py.neq xe xe) ?_ | refine JO.py (Py.neq xe xe) ?_
  refine nC ?_
  refine cF ?_
  refine JC.skip (JX.code (sR ?_))
  refine oM ?_
  first | refine JO.py (Py.neqNil Tryz.underlying70 xe rfl) ?_ | refine JO.py (Py.neqHeld Tryz.underlying70 xe rfl) ?_
  refine nC ?_
  refine cF ?_
  refine JC.skip (JX.blockN (JX.again (JC.block (sR ?_))))
  refine oM ?_
  refine oM ?_
  refine JO.invoke xe (Evs.cons xe Evs.nil) (hm) (lim2E_con G l u T Z.v tl (65536 - N) b67 (by omega) ea eT ef) xpkE ?_
  rintro _
  show JO _ _ _ _ _ _ _ ((71, _) :: _) _ (_ :: _ :: _ :: _ :: _)
  refine oM ?_
  refine JO.py (Py.extrI xe xix) ?_
  refine JO.py (Py.extrI xe xix) ?_
  refine oA ?_
  refine oA ?_
  refine nC (JC.seq (sR ?_))
  refine oM ?_
  first | refine oD (Py.gtr xe ev_const) ?_ | refine oU (Py.gtr xe ev_const) ?_ | refine JO.py (Py.gtr xe ev_const) ?_
  refine nC ?_
  refine cF ?_
  refine JC.skip (JX.code (sR ?_))
  refine oM ?_
  first | refine JO.py (Py.neqNil Tryz.underlying70 xe rfl) ?_ | refine JO.py (Py.neqHeld Tryz.underlying70 xe rfl) ?_
  refine nC ?_
  refine cT ?_
  refine JC.seq (sR ?_)
  refine oM ?_
  refine JO.py (Py.load scal70 ev_glob xpick xrow) ?_
  refine JO.py (Py.neqSame Tryz.underlying70 comp215 Tryz.underlying215 siz217 xe xe) ?_
  refine nC ?_
  refine cF ?_
  refine JC.skip (JX.code (JC.exit (JX.blockO rfl (JX.exit (JX.blockE (JX.code (sR ?_)))))))
  refine oM ?_
  refine oM ?_
  refine oA ?_
  refine oA ?_
  refine nC (JC.ret ?_)
  refine JX.end2 (Or.inl rfl) (()) Tryz.results230 (tup2 ((xe).trans (by first | exact xval | (dsimp only; exact xval))) ((xe).trans (by first | exact xval | (dsimp only; exact xval)))) xpkE
theorem copyN_con (G : Gst) (Z : ZP) (hZ : Z.Ok) (u dd db n fr re hd : Nat) (T : TypeId) (tl : List Value) (N i : Nat) (all : List Nat) (hN : 0 < N ∧ N ≤ 3000) (hi : i + N ≤ Z.m) (hn : n ≤ 100000) (hh : hd ≤ 100000) (h : re ≤ fr ∧ fr + N < n) (heq : ∀ j, j < N → Z.stream.getD (i + j) 0 = all.getD (fr + j) 0) (ea : Addr) (eT : TypeId) (ef : Nat × Nat) :
    Con Tryz.prog G 227 #[.iface 187 (.pointer (some ⟨dd, 0, none⟩)), .iface 285 (.pointer (some ⟨u, 0, none⟩)), .int .i64 65536] [cel u T (Z.v :: .int .i64 (N : Int) :: tl).toArray, Z.A i, DictC dd db n fr re hd, DictD db all fr n, EofA ea eT ef]
      (fun _ : Unit => .tuple #[.int .i64 (N : Int), eofV ea]) (fun _ => [cel u T (Z.v :: .int .i64 0 :: tl).toArray, Z.A (i + N), DictC dd db n (fr + N) re (hd + N), DictD db all (fr + N) n, EofA ea eT ef]) := by
  refine Con.intro Tryz.func227 rfl (by kernel_rfl) Tryz.ntmps227 (Nat.le_of_ble_eq_true rfl) ?_
  intro F
  show JC _ _ _ _ _ _ [(0, _), (1, _), (2, _)] _ [_, _, _, _, _, _]
  refine sR ?_
  refine oC ?_
  refine oC ?_
  refine nC (sR ?_)
  refine oM ?_
  refine oM ?_
  refine oM ?_
  refine JO.call (Evs.cons xe (Evs.cons xe Evs.nil)) (limReader_con G (.iface 285 (.pointer (some ⟨u, 0, none⟩))) 65536 rfl) xpkE ?_
  rintro l
  show JO _ _ _ _ _ _ _ ((12, _) :: _) _ (_ :: _ :: _)
  have h229 : Con Tryz.prog G 229 #[.iface 187 (.pointer (some ⟨dd, 0, none⟩)), .iface 285 (.pointer (some ⟨l, 0, none⟩))] [cel l 282 #[.iface 285 (.pointer (some ⟨u, 0, none⟩)), .int .i64 65536], cel u T (Z.v :: .int .i64 (N : Int) :: tl).toArray, Z.A i, DictC dd db n fr re hd, DictD db all fr n, EofA ea eT ef]
      (fun _ : Unit => .tuple #[.int .i64 (N : Int), .nilIface]) (fun _ => [cel u T (Z.v :: .int .i64 0 :: tl).toArray, Z.A (i + N), DictC dd db n (fr + N) re (hd + N), DictD db all (fr + N) n, EofA ea eT ef]) := by
    clear F
    refine Con.intro Tryz.func229 rfl (by kernel_rfl) Tryz.ntmps229 (Nat.le_of_ble_eq_true rfl) ?_
    intro F
    show JC _ _ _ _ _ _ [(0, _), (1, _)] _ [_, _, _, _, _, _, _]
    refine sR ?_
    refine oC ?_
    refine oC ?_
    refine nC (sR ?_)
    refine oM ?_
    refine oM ?_
    refine JO.call (Evs.cons xe (Evs.cons xe (Evs.cons ev_const Evs.nil))) (copyB_con G Z hZ l u dd db n fr re hd T tl N i all hN hi hn hh h heq ea eT ef) xpkE ?_
    rintro _
    show JO _ _ _ _ _ _ _ ((8, _) :: _) _ (_ :: _ :: _ :: _ :: _ :: _ :: _)
    refine JO.py (Py.extrI xe xix) ?_
    refine JO.py (Py.extrI xe xix) ?_
    refine oA ?_
    refine oA ?_
    refine nC (JC.ret ?_)
    refine JX.end2 (Or.inl rfl) (()) Tryz.results229 (tup2 ((xe).trans (by first | exact xval | (dsimp only; exact xval))) ((xe).trans (by first | exact xval | (dsimp only; exact xval)))) xpkE
  refine JO.call (Evs.cons xe (Evs.cons xe Evs.nil)) h229 xpkE ?_
  rintro _
  show JO _ _ _ _ _ _ _ ((13, _) :: _) _ (_ :: _ :: _ :: _ :: _ :: _ :: _)
  refine oM ?_
  refine JO.py (Py.extrI xe xix) ?_
  refine JO.py (Py.extrI xe xix) ?_
  refine oA ?_
  refine oA ?_
  refine nC (JC.seq (sR ?_))
  refine oM ?_
  refine oM ?_
  first | refine oD (Py.eql xe xe) ?_ | refine oU (Py.eql xe xe) ?_ | refine JO.py (Py.eql xe xe) ?_
  refine nC ?_
  refine cF ?_
  refine JC.skip (JX.code (JC.seq (sR ?_)))
  refine oM ?_
  refine oM ?_
  first | refine oD (Py.lss xe xe) ?_ | refine oU (Py.lss xe xe) ?_ | refine JO.py (Py.lss xe xe) ?_
  refine oM ?_
  first | (refine gT ?_; (refine oM ?_)) | refine kF ?_
  first | (refine gT ?_; (first | refine JO.py (Py.eqlNil Tryz.underlying70 xe rfl) ?_ | refine JO.py (Py.eqlHeld Tryz.underlying70 xe rfl) ?_)) | refine kF ?_
  first | refine JO.py (Py.pickT xe xe) ?_ | refine JO.py (Py.pickF xe ev_const) ?_
  refine nC ?_
  refine cT ?_
  refine JC.region ?_
  refine JO.py (Py.load scal70 ev_glob xpick xrow) ?_
  refine oA ?_
  refine nC (JC.ret ?_)
  refine JX.end2 (Or.inl rfl) (()) Tryz.results227 (tup2 ((xe).trans (by first | exact xval | (dsimp only; exact xval))) ((xe).trans (by first | exact xval | (dsimp only; exact xval)))) xpkE
end Go.Proofs.YtfpepghmbeoanaaGreatDoor
end
