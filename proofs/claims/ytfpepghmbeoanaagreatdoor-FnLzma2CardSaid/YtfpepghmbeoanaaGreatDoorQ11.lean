/-
LZMA2's reader between chunks; a chunk that is not packed, read.
The reader of LZMA is made, out of its properties and its stream.
A chunk of LZMA2 as a reader.
A packed chunk of LZMA2 as a reader.
A chunk is begun.
A packed chunk is begun.
All that a method gives: ZZMethod over a reader.
-/
import Derived.Test.YtfpepghmbeoanaaGreatDoorQ10
import Derived.Test.YtfpepghmbeoanaaGreatDoorQ09
set_option linter.unusedSimpArgs false
set_option linter.unusedVariables false
section
open Go Go.RowKit
namespace Go.Proofs.YtfpepghmbeoanaaGreatDoor
open Lz
/-- What LZMA2's reader stands on. -/
structure L2P where
  Z : ZP
  rr : Nat
  dd : Nat
  db : Nat
  all : List Nat
structure L2P.Ok (X : L2P) : Prop where
  z : X.Z.Ok
  len : X.all.length ≤ 3000
  by' : ∀ x ∈ X.all, x < 256
def emp : Asn := fun h => h = fun _ => none
def ptV : Option Nat → Value
  | none => .pointer none
  | some u => .pointer (some ⟨u, 0, none⟩)
abbrev UrC (dd u : Nat) (R : Value) (N : Int) (eof : Bool) (err : Value) : Asn := cel u 284 #[R, .int .i64 N, .pointer (some ⟨dd, 0, none⟩), .bool eof, err]
/-- The reader of chunks that are not packed, if there is one. -/
def urA (dd : Nat) : Option Nat → Asn
  | none => emp
  | some u => Ex fun x : Value × Int × Bool × Value => [UrC dd u x.1 x.2.1 x.2.2.1 x.2.2.2]
/-- The decoder, if there is one. -/
def dcA (dd : Nat) : Option Nat → Asn
  | none => emp
  | some d => Ex fun x : Nat × Nat × Nat × Nat × Bool => [DecC d dd x.1 x.2.1 x.2.2.1 x.2.2.2.1 x.2.2.2.2]
/-- Between chunks: these bytes of the stream are left, so many are written and read. -/
def BndA (X : L2P) (ur dc : Option Nat) (rest : List Nat) (pre : Nat) : Asn := Ex fun g : {g : Nat × Nat // X.Z.stream.drop g.1 = rest} => [X.Z.A g.1.1, DictC X.dd X.db 65537 pre pre g.1.2, DictD X.db X.all pre 65537, urA X.dd ur, dcA X.dd dc]
/-- A chunk that is not packed, not begun. -/
def RawF (X : L2P) (u : Nat) (dc : Option Nat) (p after : List Nat) (pre : Nat) : Asn := Ex fun i : {i : Nat // X.Z.stream.drop i = p ++ after} => [UrC X.dd u X.Z.v (p.length : Int) false .nilIface, X.Z.A i.1, DictC X.dd X.db 65537 pre pre 0, DictD X.db X.all pre 65537, dcA X.dd dc]
/-- Begun, and read so far. -/
def RawM (X : L2P) (u : Nat) (dc : Option Nat) (p after : List Nat) (pre re : Nat) : Asn := Ex fun i : {i : Nat // X.Z.stream.drop i = after} => [UrC X.dd u X.Z.v 0 true .nilIface, X.Z.A i.1, DictC X.dd X.db 65537 (pre + p.length) re p.length, DictD X.db X.all (pre + p.length) 65537, dcA X.dd dc]
theorem urFillE_con (G : Gst) (dd u : Nat) (R : Value) (ea : Addr) (eT : TypeId) (ef : Nat × Nat) : Con Tryz.prog G 235 #[.pointer (some ⟨u, 0, none⟩)] [UrC dd u R 0 true .nilIface, EofA ea eT ef] (fun _ : Unit => eofV ea) (fun _ => [UrC dd u R 0 true .nilIface, EofA ea eT ef]) := by
  refine Con.intro Tryz.func235 rfl (by kernel_rfl) Tryz.ntmps235 (Nat.le_of_ble_eq_true rfl) ?_
  intro F
  show JC _ _ _ _ _ _ [(0, _)] _ [_, _, _]
  refine sR ?_
  refine oC ?_
  refine nC (JC.seq (sR ?_))
  refine oM ?_
  first | refine JO.py (Py.nil xe) ?_ | refine JO.py (Py.nilI xe) ?_
  refine JO.py (Py.fld fld284_2 xe xoff) ?_
  refine JO.py (Py.load scal4 xe xpick xrow) ?_
  refine JO.py (Py.not xe (by first | with_reducible exact not_t | with_reducible exact not_f | exact rfl)) ?_
  refine nC ?_
  refine cF ?_
  refine JC.skip (JX.code (JC.seq (sR ?_)))
  refine oM ?_
  first | refine JO.py (Py.nil xe) ?_ | refine JO.py (Py.nilI xe) ?_
  refine JO.py (Py.fld fld284_0 xe xoff) ?_
  refine JO.py (Py.fld fld282_1 xe xoff) ?_
  refine JO.py (Py.load scal2 xe xpick xrow) ?_
  first | refine oD (Py.neq xe ev_const) ?_ | refine oU (Py.neq xe ev_const) ?_ | refine JO.py (Py.neq xe ev_const) ?_
  refine nC ?_
  refine cF ?_
  refine JC.skip (JX.code (sR ?_))
  refine JO.py (Py.load scal70 ev_glob xpick xrow) ?_
  refine oA ?_
  refine nC (JC.ret ?_)
  refine JX.end1 (Or.inl rfl) (()) Tryz.results235 ((xe).trans (by first | exact xval | (dsimp only; exact xval))) xpkE
set_option maxRecDepth 100000 in
theorem urFill_con (G : Gst) (Z : ZP) (hZ : Z.Ok) (u dd db pre N i : Nat) (all : List Nat) (hN : 0 < N ∧ N ≤ 3000) (hi : i + N ≤ Z.m) (hp : pre + N ≤ 3000) (heq : ∀ j, j < N → Z.stream.getD (i + j) 0 = all.getD (pre + j) 0) (ea : Addr) (eT : TypeId) (ef : Nat × Nat) :
    Con Tryz.prog G 235 #[.pointer (some ⟨u, 0, none⟩)] [UrC dd u Z.v (N : Int) false .nilIface, Z.A i, DictC dd db 65537 pre pre 0, DictD db all pre 65537, EofA ea eT ef] (fun _ : Unit => .nilIface)
      (fun _ => [UrC dd u Z.v 0 true .nilIface, Z.A (i + N), DictC dd db 65537 (pre + N) pre N, DictD db all (pre + N) 65537, EofA ea eT ef]) := by
  have hc := copyN_con G Z hZ u dd db 65537 pre pre 0 284 [.pointer (some ⟨dd, 0, none⟩), .bool false, .nilIface] N i all hN hi (by decide) (by decide) (by omega) heq ea eT ef
  rw [Nat.zero_add] at hc
  have ha := availD_con G dd db 65537 pre pre 0 (by decide) (by omega)
  rw [Nat.sub_self, show (65537 - 1 - 0 : Nat) = 65536 from rfl] at ha
  have ha : Con Tryz.prog G 153 #[.pointer (some ⟨dd, 0, none⟩)] [DictC dd db 65537 pre pre 0] (fun _ : Unit => .int .i64 65536) (fun _ => [DictC dd db 65537 pre pre 0]) := ha
  refine Con.intro Tryz.func235 rfl (by kernel_rfl) Tryz.ntmps235 (Nat.le_of_ble_eq_true rfl) ?_
  intro F
  show JC _ _ _ _ _ _ [(0, _)] _ [_, _, _, _, _, _]
  refine sR ?_
  refine oC ?_
  refine nC (JC.seq (sR ?_))
  refine oM ?_
  first | refine JO.py (Py.nil xe) ?_ | refine JO.py (Py.nilI xe) ?_
  refine JO.py (Py.fld fld284_2 xe xoff) ?_
  refine JO.py (Py.load scal4 xe xpick xrow) ?_
  refine JO.py (Py.not xe (by first | with_reducible exact not_t | with_reducible exact not_f | exact rfl)) ?_
  refine nC ?_
  refine cT ?_
  refine JC.seq ?_
  refine JC.regionM [(0, true), (1, true), (2, true), (3, true), (4, true), (5, true), (6, true), (7, true), (8, true), (9, true), (10, true), (11, true), (12, true), (13, false), (14, false), (15, true), (16, true), (17, true), (18, true), (19, true)] mixed (by kernel_rfl) ?_
  refine JM.py ao ⟨fun _ => Py.move xe⟩ ?_
  first | refine JM.py ao ⟨fun _ => Py.nil xe⟩ ?_ | refine JM.py ao ⟨fun _ => Py.nilI xe⟩ ?_
  refine JM.py ao ⟨fun _ => Py.fld fld284_1 xe xoff⟩ ?_
  refine JM.ld ao scal187 xe xpick xrow ?_
  refine JM.py ao ⟨fun _ => Py.mki mki187 xe⟩ ?_
  refine JM.py ao ⟨fun _ => Py.move xe⟩ ?_
  first | refine JM.py ao ⟨fun _ => Py.nil xe⟩ ?_ | refine JM.py ao ⟨fun _ => Py.nilI xe⟩ ?_
  refine JM.py ao ⟨fun _ => Py.fld fld284_0 xe xoff⟩ ?_
  refine JM.py ao ⟨fun _ => Py.mki mki285 xe⟩ ?_
  refine JM.py ao ⟨fun _ => Py.move xe⟩ ?_
  first | refine JM.py ao ⟨fun _ => Py.nil xe⟩ ?_ | refine JM.py ao ⟨fun _ => Py.nilI xe⟩ ?_
  refine JM.py ao ⟨fun _ => Py.fld fld284_1 xe xoff⟩ ?_
  refine JM.ld ao scal187 xe xpick xrow ?_
  refine JM.eff ao ?_
  refine JO.call (Evs.cons xe Evs.nil) ha xpkE ?_
  rintro _
  show JO _ _ _ _ _ _ _ ((24, _) :: _) _ (_ :: _ :: _)
  refine JO.nil ?_
  refine JX.mix (Kept.drop (Forced.step (by kernel_rfl)) (Kept.keep (fun _ hw => hw.cell xpick xrow) Kept.nil)) ?_
  refine JM.eff ao ?_
  refine JO.call (Evs.cons xe (Evs.cons xe (Evs.cons xe Evs.nil))) hc xpkE ?_
  rintro _
  show JO _ _ _ _ _ _ _ ((25, _) :: _) _ (_ :: _ :: _ :: _ :: _ :: _ :: _)
  refine JO.nil ?_
  refine JX.mix (Kept.drop (Forced.trans (q := 4) (Forced.step (by kernel_rfl)) (Forced.step (by kernel_rfl))) Kept.nil) ?_
  refine JM.py ao ⟨fun _ => Py.move xe⟩ ?_
  refine JM.py ao ⟨fun _ => Py.extrI xe xix⟩ ?_
  refine JM.py ao ⟨fun _ => Py.extrI xe xix⟩ ?_
  refine JM.py ao ⟨fun _ => Py.assign xe⟩ ?_
  refine JM.py ao ⟨fun _ => Py.assign xe⟩ ?_
  refine JM.nil (JX.code (JC.seq (sR ?_)))
  refine oM ?_
  refine JO.py (Py.load scal70 ev_glob xpick xrow) ?_
  refine JO.py (Py.neqSame Tryz.underlying70 comp215 Tryz.underlying215 siz217 xe xe) ?_
  refine nC ?_
  refine cF ?_
  refine JC.skip (JX.code (sR ?_))
  refine oM ?_
  first | refine JO.py (Py.nil xe) ?_ | refine JO.py (Py.nilI xe) ?_
  refine JO.py (Py.fld fld284_2 xe xoff) ?_
  refine JO.store siz4 xe ev_const (by first | rfl | assumption) xpick xsize xnorm ?_
  refine nC (sR ?_)
  refine oM ?_
  first | refine oD (Py.gtr xe ev_const) ?_ | refine oU (Py.gtr xe ev_const) ?_ | refine JO.py (Py.gtr xe ev_const) ?_
  refine nC ?_
  refine cT ?_
  refine sR ?_
  refine oC ?_
  refine nC (JC.ret (JX.ret ?_))
  refine JX.end1 (Or.inl rfl) (()) Tryz.results235 ((xe).trans (by first | exact xval | (dsimp only; exact xval))) xpkE
/-- The chunk's text is what stands at its place. -/
structure AtP (X : L2P) (p : List Nat) (pre : Nat) : Prop where
  eq : ∀ j, j < p.length → p.getD j 0 = X.all.getD (pre + j) 0
  fit : pre + p.length ≤ X.all.length
  pos : 0 < p.length
set_option maxRecDepth 100000 in
set_option maxHeartbeats 2000000 in
theorem rawM_con (G : Gst) (X : L2P) (hX : X.Ok) (u : Nat) (dc : Option Nat) (p after : List Nat) (pre re pb po pl pc : Nat) (ps : Array Value) (hA : AtP X p pre) (hre : pre ≤ re ∧ re ≤ pre + p.length) (hp : po + pl ≤ ps.size) (hpl : 1 ≤ pl ∧ pl ≤ 100000) (hpc : pl ≤ pc) (ea : Addr) (eT : TypeId) (ef : Nat × Nat) :
    Con Tryz.prog G 234 #[.pointer (some ⟨u, 0, none⟩), .slice (some ⟨pb, po, none⟩) pl pc] [RawM X u dc p after pre re, cel pb 5 ps, EofA ea eT ef] (fun _ : Unit => .tuple #[.int .i64 (min pl (pre + p.length - re) : Nat), if pre + p.length - re < pl then eofV ea else .nilIface])
      (fun _ => [if pre + p.length - re < pl then BndA X (some u) dc after (pre + p.length) else RawM X u dc p after pre (re + min pl (pre + p.length - re)), cel pb 5 (splice ps po (piece X.all re (min pl (pre + p.length - re)))), EofA ea eT ef]) := by
  obtain ⟨Z, rr, dd, db, all⟩ := X
  have hlen := hX.len
  have hfit := hA.fit
  dsimp only at hlen hfit ⊢
  refine Con.intro Tryz.func234 rfl (by kernel_rfl) Tryz.ntmps234 (Nat.le_of_ble_eq_true rfl) ?_
  intro F
  show JC _ _ _ _ _ _ [(0, _), (1, _)] _ [_, _, _, _]
  refine JC.as (A := RawM ⟨Z, rr, dd, db, all⟩ u dc p after pre re) (A' := Ex fun i : {i : Nat // Z.stream.drop i = after} => [UrC dd u Z.v 0 true .nilIface, Z.A i.1, DictC dd db 65537 (pre + p.length) re p.length, DictD db all (pre + p.length) 65537, dcA dd dc]) xpick (rfl) ?_
  refine JC.open xpick ?_
  rintro ⟨i, hd⟩
  show JC _ _ _ _ _ _ _ _ (_ :: _ :: _ :: _ :: _ :: _ :: _ :: _ :: _)
  dsimp only at hd ⊢
  refine sR ?_
  refine oC ?_
  refine oC ?_
  refine nC (JC.seq (sR ?_))
  refine oM ?_
  first | refine JO.py (Py.nil xe) ?_ | refine JO.py (Py.nilI xe) ?_
  refine JO.py (Py.fld fld284_3 xe xoff) ?_
  refine JO.py (Py.load scal70 xe xpick xrow) ?_
  first | refine JO.py (Py.neqNil Tryz.underlying70 xe rfl) ?_ | refine JO.py (Py.neqHeld Tryz.underlying70 xe rfl) ?_
  refine nC ?_
  refine cF ?_
  refine JC.skip (JX.code (JC.seq (JC.block ?_)))
  refine JC.unroll 0 ?_
  refine JC.block (sR ?_)
  refine oC ?_
  refine nC (JC.seq ?_)
  refine JC.regionM [(0, true), (1, true), (2, true), (3, true), (4, true), (5, true), (6, true), (7, false), (8, true), (9, true), (10, true), (11, true), (12, true)] mixed (by kernel_rfl) ?_
  refine JM.py ao ⟨fun _ => Py.move xe⟩ ?_
  first | refine JM.py ao ⟨fun _ => Py.nil xe⟩ ?_ | refine JM.py ao ⟨fun _ => Py.nilI xe⟩ ?_
  refine JM.py ao ⟨fun _ => Py.fld fld284_1 xe xoff⟩ ?_
  refine JM.ld ao scal187 xe xpick xrow ?_
  refine JM.py ao ⟨fun _ => Py.move xe⟩ ?_
  refine JM.py ao ⟨fun _ => Py.move xe⟩ ?_
  refine JM.py ao ⟨fun _ => Py.slc (l := 0) (h := pl) (p := po) (q := pl) (c := pc) Tryz.underlying22 siz5 xe (Bd.some xe (by omega)) Bd.none (by omega) (by omega) (by omega) (by omega) (by omega) (by omega)⟩ ?_
  refine JM.eff ao ?_
  refine JO.call (Evs.cons xe (Evs.cons xe Evs.nil)) (dictRead_con G dd db 65537 (pre + p.length) re p.length pb po pl pc ps all (by decide) (by omega) hp (by omega) hpc) xpkE ?_
  rintro _
  show JO _ _ _ _ _ _ _ ((24, _) :: _) _ (_ :: _ :: _ :: _ :: _)
  refine JO.nil ?_
  refine JX.mix (Kept.drop (Forced.step (by kernel_rfl)) Kept.nil) ?_
  refine JM.py ao ⟨fun _ => Py.move xe⟩ ?_
  refine JM.py ao ⟨fun _ => Py.extrI xe xix⟩ ?_
  refine JM.py ao ⟨fun _ => Py.extrI xe xix⟩ ?_
  refine JM.py ao ⟨fun _ => Py.assign xe⟩ ?_
  refine JM.py ao ⟨fun _ => Py.assign xe⟩ ?_
  refine JM.nil (JX.code (sR ?_))
  refine oM ?_
  refine oM ?_
  refine JO.py (Py.add xe xe wI) ?_
  refine oA ?_
  refine nC (JC.seq (sR ?_))
  refine oM ?_
  refine oM ?_
  refine JO.py (Py.lenS Tryz.underlying22 xe) ?_
  first | refine oD (Py.geq xe xe) ?_ | refine oU (Py.geq xe xe) ?_ | refine JO.py (Py.geq xe xe) ?_
  refine nC ?_
  by_cases hlt : pre + p.length - re < pl
  · skip
    rw [if_pos hlt, if_pos hlt, show min pl (pre + p.length - re) = pre + p.length - re by omega, show re + (pre + p.length - re) = pre + p.length by omega]
    refine cF ?_
    refine JC.skip (JX.code (JC.seq (sR ?_)))
    refine oM ?_
    first | refine JO.py (Py.neqNil Tryz.underlying70 xe rfl) ?_ | refine JO.py (Py.neqHeld Tryz.underlying70 xe rfl) ?_
    refine nC ?_
    refine cF ?_
    refine JC.skip (JX.code (sR ?_))
    refine oM ?_
    refine JO.call (Evs.cons xe Evs.nil) (urFillE_con G dd u Z.v ea eT ef) xpkE ?_
    rintro _
    show JO _ _ _ _ _ _ _ ((38, _) :: _) _ (_ :: _ :: _ :: _)
    refine oA ?_
    refine nC (sR ?_)
    refine oM ?_
    first | refine JO.py (Py.neqNil Tryz.underlying70 xe rfl) ?_ | refine JO.py (Py.neqHeld Tryz.underlying70 xe rfl) ?_
    refine nC ?_
    refine cT ?_
    refine JC.exit (JX.blockO rfl (JX.exit (JX.blockE (JX.code (sR ?_)))))
    refine oM ?_
    refine oM ?_
    first | refine JO.py (Py.nil xe) ?_ | refine JO.py (Py.nilI xe) ?_
    refine JO.py (Py.fld fld284_3 xe xoff) ?_
    refine JO.store siz70 xe xe (by first | rfl | assumption) xpick xsize xnorm ?_
    refine nC (sR ?_)
    refine oM ?_
    refine oM ?_
    refine oA ?_
    refine oA ?_
    refine nC (JC.ret ?_)
    refine JX.shut (f := fun x : Value × Int × Bool × Value => [UrC dd u x.1 x.2.1 x.2.2.1 x.2.2.2]) (Z.v, 0, true, eofV ea) xpicks ?_
    refine JX.as (A := Ex fun x : Value × Int × Bool × Value => [UrC dd u x.1 x.2.1 x.2.2.1 x.2.2.2]) (A' := urA dd (some u)) xpick (rfl) ?_
    refine JX.shut (f := fun g : {g : Nat × Nat // Z.stream.drop g.1 = after} => [Z.A g.1.1, DictC dd db 65537 (pre + p.length) (pre + p.length) g.1.2, DictD db all (pre + p.length) 65537, urA dd (some u), dcA dd dc]) ⟨(i, p.length), hd⟩ xpicks ?_
    refine JX.as (A := Ex fun g : {g : Nat × Nat // Z.stream.drop g.1 = after} => [Z.A g.1.1, DictC dd db 65537 (pre + p.length) (pre + p.length) g.1.2, DictD db all (pre + p.length) 65537, urA dd (some u), dcA dd dc]) (A' := BndA ⟨Z, rr, dd, db, all⟩ (some u) dc after (pre + p.length)) xpick (rfl) ?_
    refine JX.end2 (Or.inl rfl) (()) Tryz.results234 (tup2 ((xe).trans (by first | exact xval | (dsimp only; exact xval))) ((xe).trans (by first | exact xval | (dsimp only; exact xval)))) xpkE
  · skip
    rw [if_neg hlt, if_neg hlt, show min pl (pre + p.length - re) = pl by omega]
    refine cT ?_
    refine sR ?_
    refine oM ?_
    refine oA ?_
    refine oC ?_
    refine nC (JC.ret (JX.ret (JX.blockR (JX.ret (JX.blockR (JX.ret ?_))))))
    refine JX.shut (f := fun i : {i : Nat // Z.stream.drop i = after} => [UrC dd u Z.v 0 true .nilIface, Z.A i.1, DictC dd db 65537 (pre + p.length) (re + pl) p.length, DictD db all (pre + p.length) 65537, dcA dd dc]) ⟨i, hd⟩ xpicks ?_
    refine JX.as (A := Ex fun i : {i : Nat // Z.stream.drop i = after} => [UrC dd u Z.v 0 true .nilIface, Z.A i.1, DictC dd db 65537 (pre + p.length) (re + pl) p.length, DictD db all (pre + p.length) 65537, dcA dd dc]) (A' := RawM ⟨Z, rr, dd, db, all⟩ u dc p after pre (re + pl)) xpick (rfl) ?_
    refine JX.end2 (Or.inl rfl) (()) Tryz.results234 (tup2 ((xe).trans (by first | exact xval | (dsimp only; exact xval))) ((xe).trans (by first | exact xval | (dsimp only; exact xval)))) xpkE
end Go.Proofs.YtfpepghmbeoanaaGreatDoor
end

section
open Go Go.RowKit
namespace Go.Proofs.YtfpepghmbeoanaaGreatDoor
open Lz
theorem chain_con (G : Gst) (v : Value) (h : v.oneCell' = true) : Con Tryz.prog G 61 #[v] [] (fun ch : Nat => .iface 210 (.pointer (some ⟨ch, 0, none⟩))) (fun ch => [cel ch 212 #[v]]) := by
  refine Con.intro Tryz.func61 rfl (by kernel_rfl) Tryz.ntmps61 (Nat.le_of_ble_eq_true rfl) ?_
  intro F
  show JC _ _ _ _ _ _ [(0, _)] _ [_]
  refine sR ?_
  refine oC ?_
  refine nC (sR ?_)
  refine oM ?_
  refine JO.py (Py.build bld212 (Pts.cons xe Pts.nil) xfl) ?_
  refine JO.boxA xe ?_; intro b5
  refine JO.py (Py.mki mki210 xe) ?_
  refine oA ?_
  refine nC (JC.ret ?_)
  refine JX.end1 (Or.inl rfl) (b5) Tryz.results61 ((xe).trans (by first | exact xval | (dsimp only; exact xval))) xpkE
theorem multi_con (G : Gst) (bf r : Nat) : Con Tryz.prog G 52 #[.pointer (some ⟨bf, 0, none⟩), .iface 88 (.agg #[.pointer (some ⟨r, 0, none⟩)])] [] (fun x : Nat × Nat × Nat => .iface 171 (.pointer (some ⟨x.1, 0, none⟩)))
    (fun x => [cel x.1 173 #[.pointer (some ⟨bf, 0, none⟩), .iface 88 (.agg #[.pointer (some ⟨r, 0, none⟩)]), .iface 210 (.pointer (some ⟨x.2.1, 0, none⟩))], cel x.2.1 212 #[.slice (some ⟨x.2.2, 0, none⟩) 2 2], cel x.2.2 113 #[.iface 106 (.pointer (some ⟨bf, 0, none⟩)), .iface 88 (.agg #[.pointer (some ⟨r, 0, none⟩)])]]) := by
  refine Con.intro Tryz.func52 rfl (by kernel_rfl) Tryz.ntmps52 (Nat.le_of_ble_eq_true rfl) ?_
  intro F
  show JC _ _ _ _ _ _ [(0, _), (1, _)] _ [_]
  refine sR ?_
  refine oC ?_
  refine nC (sR ?_)
  refine oM ?_
  refine JO.py (Py.mki mki106 xe) ?_
  refine oM ?_
  refine JO.bslice Tryz.underlying209 elm113 (Evs.cons xe (Evs.cons xe Evs.nil)) rfl rfl (by simp [Value.oneCell']) (by decide) ?_; intro b11
  refine JO.call (Evs.cons xe Evs.nil) (chain_con G (.slice (some ⟨b11, 0, none⟩) 2 2) rfl) xpkE ?_
  rintro ch
  show JO _ _ _ _ _ _ _ ((12, _) :: _) _ (_ :: _ :: _)
  refine oA ?_
  refine nC (JC.seq (sR ?_))
  refine oM ?_
  refine JO.py (Py.asI Tryz.underlying169 br88 xe) ?_
  refine oM ?_
  refine JO.py (Py.extrI xe xix) ?_
  refine JO.py (Py.extrI xe xix) ?_
  refine oA ?_
  refine oA ?_
  refine nC (sR ?_)
  refine oM ?_
  refine nC ?_
  refine cT ?_
  refine sR ?_
  refine oM ?_
  refine oM ?_
  refine oM ?_
  refine JO.py (Py.build bld173 (Pts.cons xe (Pts.cons xe (Pts.cons xe Pts.nil))) xfl) ?_
  refine JO.boxA xe ?_; intro b23
  refine JO.py (Py.mki mki171 xe) ?_
  refine oA ?_
  refine nC (JC.ret (JX.ret ?_))
  refine JX.end1 (Or.inl rfl) ((b23, ch, b11)) Tryz.results52 ((xe).trans (by first | exact xval | (dsimp only; exact xval))) xpkE
theorem leN8 {z : Nat} (h : z < 65536) : leN z 8 = [z % 256, z / 256, 0, 0, 0, 0, 0, 0] := by
  have e : leN z 8 = [z / 2 ^ (8 * 0) % 256, z / 2 ^ (8 * 1) % 256, z / 2 ^ (8 * 2) % 256, z / 2 ^ (8 * 3) % 256, z / 2 ^ (8 * 4) % 256, z / 2 ^ (8 * 5) % 256, z / 2 ^ (8 * 6) % 256, z / 2 ^ (8 * 7) % 256] := rfl
  rw [e]
  simp only [Nat.reduceMul, Nat.reducePow, Nat.div_one]
  congr 1
  congr 1
  · omega
  congr 1
  · omega
  congr 1
  · omega
  congr 1
  · omega
  congr 1
  · omega
  congr 1
  · omega
  congr 1
  omega
theorem leN4 : leN 65536 4 = [0, 0, 1, 0] := by decide
/-- What the bytes of a stream must be. -/
structure StreamOk (c : Cfg) (bs : List Nat) (l : List Sym) (x1 x2 x3 x4 : Nat) (rb : List Nat) : Prop where
  ok : c.Ok
  v : ValidAll bs LzS.start l
  r : (LzS.start.run l).i = bs.length
  pos : 0 < bs.length
  len : bs.length ≤ 3000
  by' : ∀ x ∈ bs, x < 256
  h1 : x1 < 256
  h2 : x2 < 256
  h3 : x3 < 256
  h4 : x4 < 256
  n : num [x1, x2, x3, x4] < 4294967295
  d : DecOK M0 4294967295 (num [x1, x2, x3, x4]) rb (symsEv c bs LzS.start l)
theorem new51_con (G : Gst) (S : ByteSrc G) (H E : Asn) (f : FuncId) (rcv : Value) (hm : Mth Tryz.prog S.t S.u "Read" f rcv) (hn : NilA Tryz.prog S.t S.u "Read") (hbr : (Tryz.prog.info? S.t).map (fun i => (lacking #[("ReadByte", 290)] i.methods).isEmpty) = some true)
    (c : Cfg) (bs : List Nat) (l : List Sym) (x1 x2 x3 x4 : Nat) (rb : List Nat) (hs : StreamOk c bs l x1 x2 x3 x4 rb) (z : Nat) (hz : bs.length = z)
    (hrd : ∀ b, Con Tryz.prog G f #[rcv, .slice (some ⟨b, 0, none⟩) 13 13] [H, cel b 5 (Array.replicate 13 (.int .u8 0))] (fun _ : Unit => .tuple #[.int .i64 (13 : Nat), .nilIface]) (fun _ => [Two (S.A (0 :: x1 :: x2 :: x3 :: x4 :: rb)) E, cel b 5 (u8s (hdrL c z)).toArray])) :
    Con Tryz.prog G 51 #[.iface S.t S.u] [H] (fun x : {x : Nat × DecP G // x.2.Ok ∧ x.2.pre = 0 ∧ x.2.bs = bs ∧ x.2.all = bs} => .tuple #[.pointer (some ⟨x.1.1, 0, none⟩), .nilIface])
      (fun x => [RdrC x.1.1 (.iface S.t S.u) c.lc c.lp c.pb 4096 z c.lc c.lp c.pb 65536 z (.pointer (some ⟨x.1.2.d, 0, none⟩)), DecSt x.1.2 true 0, E]) := by
  have h := newReader_con G S H E f rcv hm hn hbr c hs.ok bs l hs.v hs.r hs.pos z hz (by have := hs.len; omega) hs.by' x1 x2 x3 x4 rb hs.h1 hs.h2 hs.h3 hs.h4 hs.n hs.d hrd
  refine Con.intro Tryz.func51 rfl (by kernel_rfl) Tryz.ntmps51 (Nat.le_of_ble_eq_true rfl) ?_
  intro F
  show JC _ _ _ _ _ _ [(0, _)] _ [_, _]
  refine sR ?_
  refine oC ?_
  refine oC ?_
  refine nC (sR ?_)
  refine JO.py (Py.build bld166 Pts.nil xfl) ?_
  refine oM ?_
  refine JO.call (Evs.cons xe (Evs.cons xe Evs.nil)) h xpkE ?_
  rintro ⟨⟨rd, X⟩, hX⟩
  show JO _ _ _ _ _ _ _ ((6, _) :: _) _ (_ :: _ :: _ :: _ :: _)
  dsimp only at hX ⊢
  refine JO.py (Py.extrI xe xix) ?_
  refine JO.py (Py.extrI xe xix) ?_
  refine oA ?_
  refine oA ?_
  refine nC (JC.ret ?_)
  refine JX.end2 (Or.inl rfl) (⟨(rd, X), hX⟩) Tryz.results51 (tup2 ((xe).trans (by first | exact xval | (dsimp only; exact xval))) ((xe).trans (by first | exact xval | (dsimp only; exact xval)))) xpkE
set_option maxRecDepth 100000 in
set_option maxHeartbeats 4000000 in
theorem newLz_con (G : Gst) (pv sv : Value) (rb rc r : Nat) (rcur : Array Value) (hr0 : rcur[0]? = some (.iface 88 (.agg #[.pointer (some ⟨r, 0, none⟩)]))) (c : Cfg) (bs : List Nat) (l : List Sym) (x1 x2 x3 x4 : Nat) (xs : List Nat) (hs : StreamOk c bs l x1 x2 x3 x4 xs) (hx : ∀ x ∈ xs, x < 256) (hxl : xs.length ≤ 900000) (z : Nat) (hz : bs.length = z) (ea : Addr) (eT : TypeId) (ef : Nat × Nat) :
    Con Tryz.prog G 39 #[pv, .int .u64 (z : Int), .slice (some ⟨rb, 0, none⟩) 1 rc] [Row 5 pv (u8s ((c.lc + 9 * (c.lp + 5 * c.pb)) :: leN 65536 4)), cel rb 90 rcur, BrA r sv 0 (-1), Row 5 sv (u8s (0 :: x1 :: x2 :: x3 :: x4 :: xs)), EofA ea eT ef]
      (fun x : {x : Nat × Nat × Nat × DecP G // x.2.2.2.Ok ∧ x.2.2.2.pre = 0 ∧ x.2.2.2.bs = bs ∧ x.2.2.2.all = bs} => .tuple #[.iface 115 (.pointer (some ⟨x.1.1, 0, none⟩)), .nilIface])
      (fun x => [cel x.1.1 119 #[.iface 88 (.agg #[.pointer (some ⟨r, 0, none⟩)]), .iface 109 (.pointer (some ⟨x.1.2.1, 0, none⟩))], RdrC x.1.2.1 (.iface 171 (.pointer (some ⟨x.1.2.2.1, 0, none⟩))) c.lc c.lp c.pb 4096 z c.lc c.lp c.pb 65536 z (.pointer (some ⟨x.1.2.2.2.d, 0, none⟩)), DecSt x.1.2.2.2 true 0, EofA ea eT ef]) := by
  have hlen := hs.len
  have hpos := hs.pos
  have h1 := hs.ok.l
  have h2 := hs.ok.p
  obtain ⟨m, hm⟩ : ∃ m, (0 :: x1 :: x2 :: x3 :: x4 :: xs).length = m := ⟨_, rfl⟩
  have hml : m ≤ 1000000 := by rw [← hm]; simp; omega
  have hsl : (u8s (0 :: x1 :: x2 :: x3 :: x4 :: xs)).length = m := by rw [u8s_len, hm]
  have hsx : ∀ x ∈ (0 :: x1 :: x2 :: x3 :: x4 :: xs), x < 256 := by
    intro x hxm
    simp only [List.mem_cons] at hxm
    rcases hxm with rfl | rfl | rfl | rfl | rfl | h
    · decide
    · exact hs.h1
    · exact hs.h2
    · exact hs.h3
    · exact hs.h4
    · exact hx _ h
  have hhl : ((c.lc + 9 * (c.lp + 5 * c.pb)) :: leN 65536 4) ++ leN z 8 = hdrL c z := by rw [leN4, leN8 (by omega)]; rfl
  have hhx : ∀ x ∈ hdrL c z, x < 256 := by
    intro x hxm
    rw [← hhl] at hxm
    simp only [List.mem_append, List.mem_cons] at hxm
    rcases hxm with (rfl | h) | h
    · omega
    · exact leN_lt _ _ _ h
    · exact leN_lt _ _ _ h
  refine Con.intro Tryz.func39 rfl (by kernel_rfl) Tryz.ntmps39 (Nat.le_of_ble_eq_true rfl) ?_
  intro F
  show JC _ _ _ _ _ _ [(0, _), (1, _), (2, _)] _ [_, _, _, _, _, _]
  refine JC.rowV (e := 5) (v := pv) (xs := u8s ((c.lc + 9 * (c.lp + 5 * c.pb)) :: leN 65536 4)) xpick ?_
  rintro pa pc hpv hpc
  rw [u8s_len] at hpv
  rw [leN4] at hpv ⊢
  refine sR ?_
  refine oC ?_
  refine oC ?_
  refine nC (JC.seq (sR ?_))
  refine oM ?_
  refine JO.py (Py.lenS Tryz.underlying84 xe) ?_
  first | refine oD (Py.neq xe ev_const) ?_ | refine oU (Py.neq xe ev_const) ?_ | refine JO.py (Py.neq xe ev_const) ?_
  refine nC ?_
  refine cF ?_
  refine JC.skip (JX.code (sR ?_))
  refine oM ?_
  refine JO.free (A := Row 5 (.slice none 0 0) (u8s [])) (.inl ⟨rfl, rfl⟩) ?_
  refine JO.app Tryz.underlying22 elm5 ev_const xe xpick (Src.row xpick u8s_one ⟨pa, _, pc, hpv, rfl⟩) (by simp [u8s]) (by decide) ?_
  intro v16 ho16
  rw [← u8s_append, List.nil_append]
  refine JO.call (Evs.cons xe Evs.nil) (newBuf2_con G v16 ho16) xpkE ?_
  rintro bf
  show JO _ _ _ _ _ _ _ ((17, _) :: _) _ (_ :: _ :: _)
  refine oA ?_
  refine nC (sR ?_)
  refine oM ?_
  refine oM ?_
  refine JO.shut (f := (fun v : Value × Int => [BufA bf v.1 0 v.2, Row 5 v.1 (u8s [c.lc + 9 * (c.lp + 5 * c.pb), 0, 0, 1, 0])])) ((v16, 0)) xpicks ?_
  refine JO.as (A := Ex fun v : Value × Int => [BufA bf v.1 0 v.2, Row 5 v.1 (u8s [c.lc + 9 * (c.lp + 5 * c.pb), 0, 0, 1, 0])]) (A' := BufR bf [c.lc + 9 * (c.lp + 5 * c.pb), 0, 0, 1, 0]) xpick (rfl) ?_
  refine JO.call (Evs.cons xe (Evs.cons xe Evs.nil)) (writeU64_con G bf [c.lc + 9 * (c.lp + 5 * c.pb), 0, 0, 1, 0] z (by omega) (by simp) (by simp)) xpkE ?_
  rintro _
  show JO _ _ _ _ _ _ _ ((20, _) :: _) _ (_ :: _ :: _)
  rw [show [c.lc + 9 * (c.lp + 5 * c.pb), 0, 0, 1, 0] ++ leN z 8 = hdrL c z by rw [← hhl, leN4]]
  refine JO.as (A := BufR bf (hdrL c z)) (A' := Ex fun v : Value × Int => [BufA bf v.1 0 v.2, Row 5 v.1 (u8s (hdrL c z))]) xpick (rfl) ?_
  refine JO.open xpick ?_
  rintro ⟨hv, lr⟩
  show JO _ _ _ _ _ _ _ _ _ (_ :: _ :: _ :: _)
  dsimp only
  refine JO.unrow (e := 5) (v := hv) (xs := u8s (hdrL c z)) xpick (by simp [u8s, hdrL]) ?_
  rintro hb hc hcur rfl hhr
  refine JO.unrow (e := 5) (v := sv) (xs := u8s (0 :: x1 :: x2 :: x3 :: x4 :: xs)) xpick (by simp [u8s]) ?_
  rintro sb sc ss rfl hsr
  rw [hsl]
  have hhle := hhr.le
  rw [u8s_len] at hhle
  refine nC (sR ?_)
  refine oM ?_
  refine oM ?_
  refine JO.py (Py.idxS Tryz.underlying84 siz90 xe ev_const (by omega) xidx xmult) ?_
  refine JO.py (Py.load scal90 xe xpick xrow) ?_
  refine JO.call (Evs.cons xe (Evs.cons xe Evs.nil)) (multi_con G bf r) xpkE ?_
  rintro ⟨mb, ch, cs⟩
  show JO _ _ _ _ _ _ _ ((26, _) :: _) _ (_ :: _ :: _ :: _ :: _)
  dsimp only
  have hX : (⟨mb, bf, hb, hc, hcur, lr, r, sb, m, sc, ss, ch, cs, hdrL c z, 0 :: x1 :: x2 :: x3 :: x4 :: xs⟩ : LzP).Ok := ⟨hhr.rd hhx, rfl, hhr.size, hhle, hsr.rd hsx, hm, hml⟩
  refine JO.shut (f := (fun _ : Unit => LzP.heads ⟨mb, bf, hb, hc, hcur, lr, r, sb, m, sc, ss, ch, cs, hdrL c z, 0 :: x1 :: x2 :: x3 :: x4 :: xs⟩ ea eT ef)) (()) xpicks ?_
  refine JO.as (A := Ex fun _ : Unit => LzP.heads ⟨mb, bf, hb, hc, hcur, lr, r, sb, m, sc, ss, ch, cs, hdrL c z, 0 :: x1 :: x2 :: x3 :: x4 :: xs⟩ ea eT ef) (A' := LzP.HdA ⟨mb, bf, hb, hc, hcur, lr, r, sb, m, sc, ss, ch, cs, hdrL c z, 0 :: x1 :: x2 :: x3 :: x4 :: xs⟩ ea eT ef) xpick (rfl) ?_
  have hnew : Con Tryz.prog G 51 #[.iface 171 (.pointer (some ⟨mb, 0, none⟩))] [LzP.HdA ⟨mb, bf, hb, hc, hcur, lr, r, sb, m, sc, ss, ch, cs, hdrL c z, 0 :: x1 :: x2 :: x3 :: x4 :: xs⟩ ea eT ef] (fun x : {x : Nat × DecP G // x.2.Ok ∧ x.2.pre = 0 ∧ x.2.bs = bs ∧ x.2.all = bs} => .tuple #[.pointer (some ⟨x.1.1, 0, none⟩), .nilIface])
      (fun x => [RdrC x.1.1 (.iface 171 (.pointer (some ⟨mb, 0, none⟩))) c.lc c.lp c.pb 4096 z c.lc c.lp c.pb 65536 z (.pointer (some ⟨x.1.2.d, 0, none⟩)), DecSt x.1.2 true 0, EofA ea eT ef]) :=
    new51_con G (LzP.src G _ hX) _ (EofA ea eT ef) 223 (.pointer (some ⟨mb, 0, none⟩)) (mth171R _) (nil171 _) br171 c bs l x1 x2 x3 x4 xs hs z hz (LzP.head G _ hX ea eT ef)
  refine JO.call (Evs.cons xe Evs.nil) hnew xpkE ?_
  rintro ⟨⟨rd, X⟩, hXX⟩
  show JO _ _ _ _ _ _ _ ((27, _) :: _) _ (_ :: _ :: _ :: _ :: _)
  dsimp only at hXX ⊢
  refine oM ?_
  refine JO.py (Py.extrI xe xix) ?_
  refine JO.py (Py.extrI xe xix) ?_
  refine oA ?_
  refine oA ?_
  refine nC (JC.seq (sR ?_))
  refine oM ?_
  first | refine JO.py (Py.neqNil Tryz.underlying70 xe rfl) ?_ | refine JO.py (Py.neqHeld Tryz.underlying70 xe rfl) ?_
  refine nC ?_
  refine cF ?_
  refine JC.skip (JX.code (sR ?_))
  refine oM ?_
  refine JO.py (Py.idxS Tryz.underlying84 siz90 xe ev_const (by omega) xidx xmult) ?_
  refine JO.py (Py.load scal90 xe xpick xrow) ?_
  refine oM ?_
  refine JO.py (Py.mki mki109 xe) ?_
  refine JO.py (Py.build bld119 (Pts.cons xe (Pts.cons xe Pts.nil)) xfl) ?_
  refine JO.boxA xe ?_; intro b39
  refine JO.py (Py.mki mki115 xe) ?_
  refine oA ?_
  refine oC ?_
  refine nC (JC.ret ?_)
  refine JX.end2 (Or.inl rfl) (⟨(b39, rd, mb, X), hXX⟩) Tryz.results39 (tup2 ((xe).trans (by first | exact xval | (dsimp only; exact xval))) ((xe).trans (by first | exact xval | (dsimp only; exact xval)))) xpkE
end Go.Proofs.YtfpepghmbeoanaaGreatDoor
end

section
open Go Go.RowKit
namespace Go.Proofs.YtfpepghmbeoanaaGreatDoor
open Lz
set_option maxRecDepth 100000 in
set_option maxHeartbeats 2000000 in
theorem rawF_con (G : Gst) (X : L2P) (hX : X.Ok) (u : Nat) (dc : Option Nat) (p after : List Nat) (pre pb po pl pc : Nat) (ps : Array Value) (hA : AtP X p pre) (hp : po + pl ≤ ps.size) (hpl : 1 ≤ pl ∧ pl ≤ 100000) (hpc : pl ≤ pc) (ea : Addr) (eT : TypeId) (ef : Nat × Nat) :
    Con Tryz.prog G 234 #[.pointer (some ⟨u, 0, none⟩), .slice (some ⟨pb, po, none⟩) pl pc] [RawF X u dc p after pre, cel pb 5 ps, EofA ea eT ef] (fun _ : Unit => .tuple #[.int .i64 (min pl p.length : Nat), if p.length < pl then eofV ea else .nilIface])
      (fun _ => [if p.length < pl then BndA X (some u) dc after (pre + p.length) else RawM X u dc p after pre (pre + min pl p.length), cel pb 5 (splice ps po (piece X.all pre (min pl p.length))), EofA ea eT ef]) := by
  obtain ⟨Z, rr, dd, db, all⟩ := X
  have hz := hX.z
  have hlen := hX.len
  have hfit := hA.fit
  have hpos := hA.pos
  have heq := hA.eq
  dsimp only at hz hlen hfit hpos heq ⊢
  refine Con.intro Tryz.func234 rfl (by kernel_rfl) Tryz.ntmps234 (Nat.le_of_ble_eq_true rfl) ?_
  intro F
  show JC _ _ _ _ _ _ [(0, _), (1, _)] _ [_, _, _, _]
  refine JC.as (A := RawF ⟨Z, rr, dd, db, all⟩ u dc p after pre) (A' := Ex fun i : {i : Nat // Z.stream.drop i = p ++ after} => [UrC dd u Z.v (p.length : Int) false .nilIface, Z.A i.1, DictC dd db 65537 pre pre 0, DictD db all pre 65537, dcA dd dc]) xpick (rfl) ?_
  refine JC.open xpick ?_
  rintro ⟨i, hd⟩
  show JC _ _ _ _ _ _ _ _ (_ :: _ :: _ :: _ :: _ :: _ :: _ :: _ :: _)
  dsimp only at hd ⊢
  have hil := drop_len hd (by intro h; rw [List.append_eq_nil_iff] at h; rw [h.1] at hpos; simp at hpos)
  rw [List.length_append, hz.sl] at hil
  have hd2 : Z.stream.drop (i + p.length) = after := drop_add hd rfl
  have heq2 : ∀ j, j < p.length → Z.stream.getD (i + j) 0 = all.getD (pre + j) 0 := by
    intro j hj
    rw [← heq j hj]
    have := congrArg (·[j]?) hd
    simp only [List.getElem?_drop] at this
    rw [List.getD_eq_getElem?_getD, this, List.getElem?_append_left hj, List.getD_eq_getElem?_getD]
  refine sR ?_
  refine oC ?_
  refine oC ?_
  refine nC (JC.seq (sR ?_))
  refine oM ?_
  first | refine JO.py (Py.nil xe) ?_ | refine JO.py (Py.nilI xe) ?_
  refine JO.py (Py.fld fld284_3 xe xoff) ?_
  refine JO.py (Py.load scal70 xe xpick xrow) ?_
  first | refine JO.py (Py.neqNil Tryz.underlying70 xe rfl) ?_ | refine JO.py (Py.neqHeld Tryz.underlying70 xe rfl) ?_
  refine nC ?_
  refine cF ?_
  refine JC.skip (JX.code (JC.seq (JC.block ?_)))
  refine JC.unroll 1 ?_
  refine JC.block (sR ?_)
  refine oC ?_
  refine nC (JC.seq ?_)
  refine JC.regionM [(0, true), (1, true), (2, true), (3, true), (4, true), (5, true), (6, true), (7, false), (8, true), (9, true), (10, true), (11, true), (12, true)] mixed (by kernel_rfl) ?_
  refine JM.py ao ⟨fun _ => Py.move xe⟩ ?_
  first | refine JM.py ao ⟨fun _ => Py.nil xe⟩ ?_ | refine JM.py ao ⟨fun _ => Py.nilI xe⟩ ?_
  refine JM.py ao ⟨fun _ => Py.fld fld284_1 xe xoff⟩ ?_
  refine JM.ld ao scal187 xe xpick xrow ?_
  refine JM.py ao ⟨fun _ => Py.move xe⟩ ?_
  refine JM.py ao ⟨fun _ => Py.move xe⟩ ?_
  refine JM.py ao ⟨fun _ => Py.slc (l := 0) (h := pl) (p := po) (q := pl) (c := pc) Tryz.underlying22 siz5 xe (Bd.some xe (by omega)) Bd.none (by omega) (by omega) (by omega) (by omega) (by omega) (by omega)⟩ ?_
  refine JM.eff ao ?_
  refine JO.call (Evs.cons xe (Evs.cons xe Evs.nil)) (dictRead_con G dd db 65537 pre pre 0 pb po pl pc ps all (by decide) (by omega) hp (by omega) hpc) xpkE ?_
  rintro _
  show JO _ _ _ _ _ _ _ ((24, _) :: _) _ (_ :: _ :: _ :: _ :: _)
  rw [Nat.sub_self, show min pl 0 = 0 by omega, piece_zero, splice_nil, Nat.add_zero]
  refine JO.nil ?_
  refine JX.mix (Kept.drop (Forced.step (by kernel_rfl)) Kept.nil) ?_
  refine JM.py ao ⟨fun _ => Py.move xe⟩ ?_
  refine JM.py ao ⟨fun _ => Py.extrI xe xix⟩ ?_
  refine JM.py ao ⟨fun _ => Py.extrI xe xix⟩ ?_
  refine JM.py ao ⟨fun _ => Py.assign xe⟩ ?_
  refine JM.py ao ⟨fun _ => Py.assign xe⟩ ?_
  refine JM.nil (JX.code (sR ?_))
  refine oM ?_
  refine oM ?_
  refine JO.py (Py.add xe xe wI) ?_
  refine oA ?_
  refine nC (JC.seq (sR ?_))
  refine oM ?_
  refine oM ?_
  refine JO.py (Py.lenS Tryz.underlying22 xe) ?_
  first | refine oD (Py.geq xe xe) ?_ | refine oU (Py.geq xe xe) ?_ | refine JO.py (Py.geq xe xe) ?_
  refine nC ?_
  refine cF ?_
  refine JC.skip (JX.code (JC.seq (sR ?_)))
  refine oM ?_
  first | refine JO.py (Py.neqNil Tryz.underlying70 xe rfl) ?_ | refine JO.py (Py.neqHeld Tryz.underlying70 xe rfl) ?_
  refine nC ?_
  refine cF ?_
  refine JC.skip (JX.code (sR ?_))
  refine oM ?_
  refine JO.call (Evs.cons xe Evs.nil) (urFill_con G Z hz u dd db pre p.length i all ⟨hpos, by omega⟩ (by omega) (by omega) heq2 ea eT ef) xpkE ?_
  rintro _
  show JO _ _ _ _ _ _ _ ((38, _) :: _) _ (_ :: _ :: _ :: _ :: _ :: _ :: _)
  refine oA ?_
  refine nC (sR ?_)
  refine oM ?_
  first | refine JO.py (Py.neqNil Tryz.underlying70 xe rfl) ?_ | refine JO.py (Py.neqHeld Tryz.underlying70 xe rfl) ?_
  refine nC ?_
  refine cF ?_
  refine JC.skip (JX.blockN (JX.again (JC.block (sR ?_))))
  refine oC ?_
  refine nC (JC.seq ?_)
  refine JC.regionM [(0, true), (1, true), (2, true), (3, true), (4, true), (5, true), (6, true), (7, false), (8, true), (9, true), (10, true), (11, true), (12, true)] mixed (by kernel_rfl) ?_
  refine JM.py ao ⟨fun _ => Py.move xe⟩ ?_
  first | refine JM.py ao ⟨fun _ => Py.nil xe⟩ ?_ | refine JM.py ao ⟨fun _ => Py.nilI xe⟩ ?_
  refine JM.py ao ⟨fun _ => Py.fld fld284_1 xe xoff⟩ ?_
  refine JM.ld ao scal187 xe xpick xrow ?_
  refine JM.py ao ⟨fun _ => Py.move xe⟩ ?_
  refine JM.py ao ⟨fun _ => Py.move xe⟩ ?_
  refine JM.py ao ⟨fun _ => Py.slc (l := 0) (h := pl) (p := po) (q := pl) (c := pc) Tryz.underlying22 siz5 xe (Bd.some xe (by omega)) Bd.none (by omega) (by omega) (by omega) (by omega) (by omega) (by omega)⟩ ?_
  refine JM.eff ao ?_
  refine JO.call (Evs.cons xe (Evs.cons xe Evs.nil)) (dictRead_con G dd db 65537 (pre + p.length) pre p.length pb po pl pc ps all (by decide) (by omega) hp (by omega) hpc) xpkE ?_
  rintro _
  show JO _ _ _ _ _ _ _ ((24, _) :: _) _ (_ :: _ :: _ :: _ :: _)
  rw [show pre + p.length - pre = p.length by omega]
  refine JO.nil ?_
  refine JX.mix (Kept.drop (Forced.step (by kernel_rfl)) Kept.nil) ?_
  refine JM.py ao ⟨fun _ => Py.move xe⟩ ?_
  refine JM.py ao ⟨fun _ => Py.extrI xe xix⟩ ?_
  refine JM.py ao ⟨fun _ => Py.extrI xe xix⟩ ?_
  refine JM.py ao ⟨fun _ => Py.assign xe⟩ ?_
  refine JM.py ao ⟨fun _ => Py.assign xe⟩ ?_
  refine JM.nil (JX.code (sR ?_))
  refine oM ?_
  refine oM ?_
  refine JO.py (Py.add xe xe wI) ?_
  refine oA ?_
  refine nC (JC.seq (sR ?_))
  refine oM ?_
  refine oM ?_
  refine JO.py (Py.lenS Tryz.underlying22 xe) ?_
  first | refine oD (Py.geq xe xe) ?_ | refine oU (Py.geq xe xe) ?_ | refine JO.py (Py.geq xe xe) ?_
  refine nC ?_
  by_cases hlt : p.length < pl
  · skip
    rw [if_pos hlt, if_pos hlt, show min pl p.length = p.length by omega]
    refine cF ?_
    refine JC.skip (JX.code (JC.seq (sR ?_)))
    refine oM ?_
    first | refine JO.py (Py.neqNil Tryz.underlying70 xe rfl) ?_ | refine JO.py (Py.neqHeld Tryz.underlying70 xe rfl) ?_
    refine nC ?_
    refine cF ?_
    refine JC.skip (JX.code (sR ?_))
    refine oM ?_
    refine JO.call (Evs.cons xe Evs.nil) (urFillE_con G dd u Z.v ea eT ef) xpkE ?_
    rintro _
    show JO _ _ _ _ _ _ _ ((38, _) :: _) _ (_ :: _ :: _ :: _)
    refine oA ?_
    refine nC (sR ?_)
    refine oM ?_
    first | refine JO.py (Py.neqNil Tryz.underlying70 xe rfl) ?_ | refine JO.py (Py.neqHeld Tryz.underlying70 xe rfl) ?_
    refine nC ?_
    refine cT ?_
    refine JC.exit (JX.blockO rfl (JX.exit (JX.blockE (JX.code (sR ?_)))))
    refine oM ?_
    refine oM ?_
    first | refine JO.py (Py.nil xe) ?_ | refine JO.py (Py.nilI xe) ?_
    refine JO.py (Py.fld fld284_3 xe xoff) ?_
    refine JO.store siz70 xe xe (by first | rfl | assumption) xpick xsize xnorm ?_
    refine nC (sR ?_)
    refine oM ?_
    refine oM ?_
    refine oA ?_
    refine oA ?_
    refine nC (JC.ret ?_)
    refine JX.shut (f := fun x : Value × Int × Bool × Value => [UrC dd u x.1 x.2.1 x.2.2.1 x.2.2.2]) (Z.v, 0, true, eofV ea) xpicks ?_
    refine JX.as (A := Ex fun x : Value × Int × Bool × Value => [UrC dd u x.1 x.2.1 x.2.2.1 x.2.2.2]) (A' := urA dd (some u)) xpick (rfl) ?_
    refine JX.shut (f := fun g : {g : Nat × Nat // Z.stream.drop g.1 = after} => [Z.A g.1.1, DictC dd db 65537 (pre + p.length) (pre + p.length) g.1.2, DictD db all (pre + p.length) 65537, urA dd (some u), dcA dd dc]) ⟨(i + p.length, p.length), hd2⟩ xpicks ?_
    refine JX.as (A := Ex fun g : {g : Nat × Nat // Z.stream.drop g.1 = after} => [Z.A g.1.1, DictC dd db 65537 (pre + p.length) (pre + p.length) g.1.2, DictD db all (pre + p.length) 65537, urA dd (some u), dcA dd dc]) (A' := BndA ⟨Z, rr, dd, db, all⟩ (some u) dc after (pre + p.length)) xpick (rfl) ?_
    refine JX.end2 (Or.inl rfl) (()) Tryz.results234 (tup2 ((xe).trans (by first | exact xval | (dsimp only; exact xval))) ((xe).trans (by first | exact xval | (dsimp only; exact xval)))) xpkE
  · skip
    rw [if_neg hlt, if_neg hlt, show min pl p.length = pl by omega]
    refine cT ?_
    refine sR ?_
    refine oM ?_
    refine oA ?_
    refine oC ?_
    refine nC (JC.ret (JX.ret (JX.blockR (JX.ret (JX.blockR (JX.ret ?_))))))
    refine JX.shut (f := fun i : {i : Nat // Z.stream.drop i = after} => [UrC dd u Z.v 0 true .nilIface, Z.A i.1, DictC dd db 65537 (pre + p.length) (pre + pl) p.length, DictD db all (pre + p.length) 65537, dcA dd dc]) ⟨i + p.length, hd2⟩ xpicks ?_
    refine JX.as (A := Ex fun i : {i : Nat // Z.stream.drop i = after} => [UrC dd u Z.v 0 true .nilIface, Z.A i.1, DictC dd db 65537 (pre + p.length) (pre + pl) p.length, DictD db all (pre + p.length) 65537, dcA dd dc]) (A' := RawM ⟨Z, rr, dd, db, all⟩ u dc p after pre (pre + pl)) xpick (rfl) ?_
    refine JX.end2 (Or.inl rfl) (()) Tryz.results234 (tup2 ((xe).trans (by first | exact xval | (dsimp only; exact xval))) ((xe).trans (by first | exact xval | (dsimp only; exact xval)))) xpkE
theorem mth188R (p : Value) : Mth Tryz.prog 188 p "Read" 234 p := fun w => by kernel_rfl
theorem mth189R (p : Value) : Mth Tryz.prog 189 p "Read" 149 p := fun w => by kernel_rfl
/-- A chunk that is read: what holds when so many of all bytes are read. -/
structure CkR (G : Gst) (X : L2P) (ea : Addr) (eT : TypeId) (ef : Nat × Nat) where
  t : TypeId
  u : Value
  f : FuncId
  m : Mth Tryz.prog t u "Read" f u
  st : Nat
  ur : Option Nat
  dc : Option Nat
  after : List Nat
  pre : Nat
  len : Nat
  St : Bool → Nat → Asn
  con : ∀ (fresh : Bool) (re pb po pl pc : Nat) (ps : Array Value), (fresh = true → re = pre) → pre ≤ re ∧ re ≤ pre + len → po + pl ≤ ps.size → 1 ≤ pl ∧ pl ≤ 100000 → pl ≤ pc →
    Con Tryz.prog G f #[u, .slice (some ⟨pb, po, none⟩) pl pc] [St fresh re, cel pb 5 ps, EofA ea eT ef] (fun _ : Unit => .tuple #[.int .i64 (min pl (pre + len - re) : Nat), if pre + len - re < pl then eofV ea else .nilIface])
      (fun _ => [if pre + len - re < pl then BndA X ur dc after (pre + len) else St false (re + min pl (pre + len - re)), cel pb 5 (splice ps po (piece X.all re (min pl (pre + len - re)))), EofA ea eT ef])
def rawCk (G : Gst) (X : L2P) (hX : X.Ok) (ea : Addr) (eT : TypeId) (ef : Nat × Nat) (u : Nat) (dc : Option Nat) (p after : List Nat) (pre : Nat) (hA : AtP X p pre) : CkR G X ea eT ef where
  t := 188
  u := .pointer (some ⟨u, 0, none⟩)
  f := 234
  m := mth188R _
  st := 82
  ur := some u
  dc := dc
  after := after
  pre := pre
  len := p.length
  St := fun fresh re => if fresh then RawF X u dc p after pre else RawM X u dc p after pre re
  con := by
    intro fresh re pb po pl pc ps hf hre hp hpl hpc
    cases fresh with
    | true =>
      obtain rfl := hf rfl
      have h := rawF_con G X hX u dc p after re pb po pl pc ps hA hp hpl hpc ea eT ef
      rw [show re + p.length - re = p.length by omega]
      exact h
    | false => exact rawM_con G X hX u dc p after pre re pb po pl pc ps hA hre hp hpl hpc ea eT ef
end Go.Proofs.YtfpepghmbeoanaaGreatDoor
end

section
open Go Go.RowKit
namespace Go.Proofs.YtfpepghmbeoanaaGreatDoor
open Lz
theorem Sat.get {G : Gst} {w : World} {p l r : List Asn} (h : Sat G w l) (q : Picks p l r) : Sat G w p :=
  (h.picks q).of fun hs => by
    obtain ⟨h1, h2, hd, e, ha, _⟩ := stars_append.1 hs
    rw [e]; exact stars_up _ (Hp.le_un h1 h2) ha
/-- A packed chunk's decoder, over the chunk's bytes. -/
structure PkP (G : Gst) (X : L2P) where
  S : CkS
  hS : S.Z.Ok
  hZ : S.Z = X.Z
  K : DecP G
  ok : K.Ok
  R : K.R = CkS.src G S hS
  dd : K.dd = X.dd
  db : K.db = X.db
  n : K.n = 65537
  all : K.all = X.all
theorem pk_done (G : Gst) (X : L2P) (Y : PkP G X) (ur : Option Nat) (w : World) (A B F : Asn) (h : Sat G w [DecSt Y.K false (Y.K.pre + Y.K.bs.length), A, B, urA X.dd ur, F]) : Sat G w [BndA X ur (some Y.K.d) Y.S.after (Y.K.pre + Y.K.bs.length), A, B, F] := by
  obtain ⟨S, hS, hZ, K, ok, R, hdd, hdb, hn, hall⟩ := Y
  obtain ⟨Z, rr, dd, db, all⟩ := X
  dsimp only at hZ hdd hdb hn hall h ⊢
  have h1 : Sat G w (DoneA K (K.pre + K.bs.length) :: [A, B, urA dd ur, F]) := h
  obtain ⟨⟨M, q⟩, h2⟩ := h1.opens
  have h3 : Sat G w (DecS K.g K.R M [] :: [DecC K.d K.dd K.sb K.g 0 K.bs.length true, DictC K.dd K.db K.n (K.pre + K.bs.length) (K.pre + K.bs.length) K.bs.length, DictD K.db K.all (K.pre + K.bs.length) K.n, A, B, urA dd ur, F]) := Sat.get h2 xpkE
  obtain ⟨⟨y, hy⟩, h4⟩ := h3.opens
  obtain ⟨r, c, rb⟩ := y
  have hrb : rb = [] := hy.2
  subst hrb
  have h5 : Sat G w (K.R.A [] :: [DecC K.d K.dd K.sb K.g 0 K.bs.length true, DictC K.dd K.db K.n (K.pre + K.bs.length) (K.pre + K.bs.length) K.bs.length, DictD K.db K.all (K.pre + K.bs.length) K.n, A, B, urA dd ur, F]) := Sat.get h4 xpkE
  rw [R] at h5
  have h6 : Sat G w (CkS.A S [] :: [DecC K.d K.dd K.sb K.g 0 K.bs.length true, DictC K.dd K.db K.n (K.pre + K.bs.length) (K.pre + K.bs.length) K.bs.length, DictD K.db K.all (K.pre + K.bs.length) K.n, A, B, urA dd ur, F]) := h5
  obtain ⟨⟨⟨i, v⟩, hd⟩, h7⟩ := h6.opens
  dsimp only at hd
  rw [List.nil_append, hZ] at hd
  have h8 : Sat G w (DecC K.d K.dd K.sb K.g 0 K.bs.length true :: [S.Z.A i, DictC K.dd K.db K.n (K.pre + K.bs.length) (K.pre + K.bs.length) K.bs.length, DictD K.db K.all (K.pre + K.bs.length) K.n, A, B, urA dd ur, F]) := Sat.get h7 xpkE
  rw [hZ, hdd, hdb, hn, hall] at h8
  have h9 : Sat G w (dcA dd (some K.d) :: [Z.A i, DictC dd db 65537 (K.pre + K.bs.length) (K.pre + K.bs.length) K.bs.length, DictD db all (K.pre + K.bs.length) 65537, A, B, urA dd ur, F]) :=
    Sat.shuts (f := fun x : Nat × Nat × Nat × Nat × Bool => [DecC K.d dd x.1 x.2.1 x.2.2.1 x.2.2.2.1 x.2.2.2.2]) (K.sb, K.g, 0, K.bs.length, true) h8
  have h10 : Sat G w ([Z.A i, DictC dd db 65537 (K.pre + K.bs.length) (K.pre + K.bs.length) K.bs.length, DictD db all (K.pre + K.bs.length) 65537, urA dd ur, dcA dd (some K.d)] ++ [A, B, F]) := Sat.get h9 xpkE
  exact Sat.shuts (f := fun g : {g : Nat × Nat // Z.stream.drop g.1 = S.after} => [Z.A g.1.1, DictC dd db 65537 (K.pre + K.bs.length) (K.pre + K.bs.length) g.1.2, DictD db all (K.pre + K.bs.length) 65537, urA dd ur, dcA dd (some K.d)]) ⟨(i, K.bs.length), hd⟩ h10
def pkCk (G : Gst) (X : L2P) (ea : Addr) (eT : TypeId) (ef : Nat × Nat) (ur : Option Nat) (Y : PkP G X) : CkR G X ea eT ef where
  t := 189
  u := .pointer (some ⟨Y.K.d, 0, none⟩)
  f := 149
  m := mth189R _
  st := 76
  ur := ur
  dc := some Y.K.d
  after := Y.S.after
  pre := Y.K.pre
  len := Y.K.bs.length
  St := fun fresh re => Two (DecSt Y.K fresh re) (urA X.dd ur)
  con := by
    intro fresh re pb po pl pc ps hf hre hp hpl hpc
    have h := decRead_con Y.K Y.ok fresh re pb po pl pc ps hf hre hp hpl hpc ea eT ef
    rw [Y.all] at h
    refine ⟨h.1, fun F w hw => ?_⟩
    obtain ⟨_, hw1⟩ := Sat.opens (f := fun _ : Unit => [DecSt Y.K fresh re, urA X.dd ur]) (l := [cel pb 5 ps, EofA ea eT ef, F]) hw
    have hw2 : Sat G w [DecSt Y.K fresh re, cel pb 5 ps, EofA ea eT ef, urA X.dd ur, F] := Sat.get hw1 xpkE
    refine (h.calls (r := [urA X.dd ur, F]) hw2 xpkE).mono ?_
    rintro e w' ⟨_, rfl, hs⟩
    refine ⟨(), rfl, ?_⟩
    by_cases hlt : Y.K.pre + Y.K.bs.length - re < pl
    · rw [if_pos hlt]
      rw [show re + min pl (Y.K.pre + Y.K.bs.length - re) = Y.K.pre + Y.K.bs.length by omega] at hs
      exact pk_done G X Y ur w' _ _ F hs
    · rw [if_neg hlt]
      have hs2 : Sat G w' ([DecSt Y.K false (re + min pl (Y.K.pre + Y.K.bs.length - re)), urA X.dd ur] ++ [cel pb 5 (splice ps po (piece X.all re (min pl (Y.K.pre + Y.K.bs.length - re)))), EofA ea eT ef, F]) := Sat.get hs xpkE
      exact Sat.shuts (f := fun _ : Unit => [DecSt Y.K false (re + min pl (Y.K.pre + Y.K.bs.length - re)), urA X.dd ur]) () hs2
end Go.Proofs.YtfpepghmbeoanaaGreatDoor
end

section
open Go Go.RowKit
namespace Go.Proofs.YtfpepghmbeoanaaGreatDoor
open Lz
section
variable {P : Program} {G : Gst} {n : Nat} {base : Nat → Value} {L : List (Nat × Value)} {As r : List Asn}
theorem run_eqp {t e : TypeId} {a : Option Addr} (ht : P.underlying t = some (.pointer e)) (w : World) : (binOp .eql t (.pointer a) (.pointer none)).run P w = .ok (.bool a.isNone) w ∧ (binOp .neq t (.pointer a) (.pointer none)).run P w = .ok (.bool (!a.isNone)) w := by
  have h : ∀ d : Nat, (Op.equalIn (d + 1) t (.pointer a) (.pointer none)).run P w = .ok a.isNone w := by
    intro d
    cases a <;> simp [Op.equalIn, run_underlying ht]
  constructor
  · simp only [binOp]; simp [Op.equal, Op.maxDepth, h 9999]
  · simp only [binOp]; simp [Op.equal, Op.maxDepth, h 9999]
theorem Py.eqlP {xt yt e : TypeId} {x : Operand} {a : Option Addr} {c : Bool} (ht : P.underlying xt = some (.pointer e)) (hx : ev n base L x = .pointer a) (hc : a.isNone = c) : Py P G n base L As (.binOp .eql xt x (.const (.pointer none)) yt) (.bool c) := by
  subst hc
  refine ⟨fun w _ o ho => ?_⟩
  have hg : (eqGuard .eql xt x (.const (.pointer none)) (.pointer a) (.pointer none)).run P w = .ok () w := by simp [eqGuard]
  have hy : ev n base L (.const (.pointer none)) = .pointer none := rfl
  simp only [execOp, ho, hx, hy, Sem.run_bind, hg, Result.andThen_ok, (run_eqp ht w).1, Sem.run_pure]
theorem Py.neqP {xt yt e : TypeId} {x : Operand} {a : Option Addr} {c : Bool} (ht : P.underlying xt = some (.pointer e)) (hx : ev n base L x = .pointer a) (hc : (!a.isNone) = c) : Py P G n base L As (.binOp .neq xt x (.const (.pointer none)) yt) (.bool c) := by
  subst hc
  refine ⟨fun w _ o ho => ?_⟩
  have hg : (eqGuard .neq xt x (.const (.pointer none)) (.pointer a) (.pointer none)).run P w = .ok () w := by simp [eqGuard]
  have hy : ev n base L (.const (.pointer none)) = .pointer none := rfl
  simp only [execOp, ho, hx, hy, Sem.run_bind, hg, Result.andThen_ok, (run_eqp ht w).2, Sem.run_pure]
end
abbrev R2C (rr : Nat) (R err : Value) (dd : Nat) (urv dcv cr : Value) (st : Nat) : Asn := cel rr 191 #[R, err, .pointer (some ⟨dd, 0, none⟩), urv, dcv, cr, .int .u8 (st : Int)]
theorem dictReset_con (G : Gst) (dd db n fr re hd : Nat) : Con Tryz.prog G 81 #[.pointer (some ⟨dd, 0, none⟩)] [DictC dd db n fr re hd] (fun _ : Unit => .tuple #[]) (fun _ => [DictC dd db n fr re 0]) := by
  refine Con.intro Tryz.func81 rfl (by kernel_rfl) Tryz.ntmps81 (Nat.le_of_ble_eq_true rfl) ?_
  intro F
  show JC _ _ _ _ _ _ [(0, _)] _ [_, _]
  refine JC.region ?_
  refine oM ?_
  first | refine JO.py (Py.nil xe) ?_ | refine JO.py (Py.nilI xe) ?_
  refine JO.py (Py.fld fld223_1 xe xoff) ?_
  refine JO.store siz2 xe ev_const (by first | rfl | assumption) xpick xsize xnorm ?_
  refine JO.nil ?_
  refine JX.end0 (Or.inr rfl) (()) Tryz.results81 rfl xpkE
theorem unc1_con (G : Gst) : Con Tryz.prog G 82 #[.int .u8 ((1 : Nat) : Int)] [] (fun _ : Unit => .bool true) (fun _ => []) := by
  refine Con.intro Tryz.func82 rfl (by kernel_rfl) Tryz.ntmps82 (Nat.le_of_ble_eq_true rfl) ?_
  intro F
  show JC _ _ _ _ _ _ [(0, _)] _ [_]
  refine sR ?_
  refine oC ?_
  refine nC (sR ?_)
  refine oM ?_
  first | refine oD (Py.eql xe ev_const) ?_ | refine oU (Py.eql xe ev_const) ?_ | refine JO.py (Py.eql xe ev_const) ?_
  refine oM ?_
  first | (refine gF ?_; (refine oM ?_)) | refine kT ?_
  first | (refine gF ?_; (first | refine oD (Py.eql xe ev_const) ?_ | refine oU (Py.eql xe ev_const) ?_ | refine JO.py (Py.eql xe ev_const) ?_)) | refine kT ?_
  first | refine JO.py (Py.pickT xe ev_const) ?_ | refine JO.py (Py.pickF xe xe) ?_
  refine oA ?_
  refine nC (JC.ret ?_)
  refine JX.end1 (Or.inl rfl) (()) Tryz.results82 ((xe).trans (by first | exact xval | (dsimp only; exact xval))) xpkE
theorem unc6_con (G : Gst) : Con Tryz.prog G 82 #[.int .u8 ((6 : Nat) : Int)] [] (fun _ : Unit => .bool false) (fun _ => []) := by
  refine Con.intro Tryz.func82 rfl (by kernel_rfl) Tryz.ntmps82 (Nat.le_of_ble_eq_true rfl) ?_
  intro F
  show JC _ _ _ _ _ _ [(0, _)] _ [_]
  refine sR ?_
  refine oC ?_
  refine nC (sR ?_)
  refine oM ?_
  first | refine oD (Py.eql xe ev_const) ?_ | refine oU (Py.eql xe ev_const) ?_ | refine JO.py (Py.eql xe ev_const) ?_
  refine oM ?_
  first | (refine gF ?_; (refine oM ?_)) | refine kT ?_
  first | (refine gF ?_; (first | refine oD (Py.eql xe ev_const) ?_ | refine oU (Py.eql xe ev_const) ?_ | refine JO.py (Py.eql xe ev_const) ?_)) | refine kT ?_
  first | refine JO.py (Py.pickT xe ev_const) ?_ | refine JO.py (Py.pickF xe xe) ?_
  refine oA ?_
  refine nC (JC.ret ?_)
  refine JX.end1 (Or.inl rfl) (()) Tryz.results82 ((xe).trans (by first | exact xval | (dsimp only; exact xval))) xpkE
set_option maxRecDepth 100000 in
theorem reopen_con (G : Gst) (S : ByteSrc G) (x1 x2 x3 x4 : Nat) (rb : List Nat) (h1 : x1 < 256) (h2 : x2 < 256) (h3 : x3 < 256) (h4 : x4 < 256) (hn : num [x1, x2, x3, x4] < 4294967295) (d sb dd db n fr re size g0 s0 z0 : Nat) (b0 : Bool) (M : PM) (l : List Ev) (hd : DecOK M 4294967295 (num [x1, x2, x3, x4]) rb l) :
    Con Tryz.prog G 87 #[.pointer (some ⟨d, 0, none⟩), .iface S.t S.u, .int .i64 (size : Int)] [DecC d dd sb g0 s0 z0 b0, S.A (0 :: x1 :: x2 :: x3 :: x4 :: rb), DictC dd db n fr re 0] (fun _ : Nat => .nilIface)
      (fun g => [DecC d dd sb g 0 size false, DictC dd db n fr re 0, DecS g S M l]) := by
  refine Con.intro Tryz.func87 rfl (by kernel_rfl) Tryz.ntmps87 (Nat.le_of_ble_eq_true rfl) ?_
  intro F
  show JC _ _ _ _ _ _ [(0, _), (1, _), (2, _)] _ [_, _, _, _]
  refine sR ?_
  refine oC ?_
  refine nC (sR ?_)
  refine oC ?_
  refine nC (JC.seq (sR ?_))
  refine oM ?_
  refine oM ?_
  refine JO.call (Evs.cons xe Evs.nil) (newRange_con G S x1 x2 x3 x4 rb h1 h2 h3 h4 hn) xpkE ?_
  rintro g
  show JO _ _ _ _ _ _ _ ((11, _) :: _) _ (_ :: _ :: _ :: _)
  refine oM ?_
  refine JO.py (Py.extrI xe xix) ?_
  refine JO.py (Py.extrI xe xix) ?_
  first | refine JO.py (Py.nil xe) ?_ | refine JO.py (Py.nilI xe) ?_
  refine JO.py (Py.fld fld237_2 xe xoff) ?_
  refine JO.store siz235 xe xe (by first | rfl | assumption) xpick xsize xnorm ?_
  refine oA ?_
  refine nC (sR ?_)
  refine oM ?_
  first | refine JO.py (Py.neqNil Tryz.underlying70 xe rfl) ?_ | refine JO.py (Py.neqHeld Tryz.underlying70 xe rfl) ?_
  refine nC ?_
  refine cF ?_
  refine JC.skip (JX.code (sR ?_))
  refine oM ?_
  refine oM ?_
  first | refine JO.py (Py.nil xe) ?_ | refine JO.py (Py.nilI xe) ?_
  refine JO.py (Py.fld fld237_0 xe xoff) ?_
  refine JO.py (Py.load scal187 xe xpick xrow) ?_
  refine JO.call (Evs.cons xe Evs.nil) (pos_con G dd db n fr re 0) xpkE ?_
  rintro _
  show JO _ _ _ _ _ _ _ ((24, _) :: _) _ (_ :: _ :: _)
  first | refine JO.py (Py.nil xe) ?_ | refine JO.py (Py.nilI xe) ?_
  refine JO.py (Py.fld fld237_3 xe xoff) ?_
  refine JO.store siz2 xe xe (by first | rfl | assumption) xpick xsize xnorm ?_
  refine nC (sR ?_)
  refine oM ?_
  refine oM ?_
  first | refine JO.py (Py.nil xe) ?_ | refine JO.py (Py.nilI xe) ?_
  refine JO.py (Py.fld fld237_4 xe xoff) ?_
  refine JO.store siz2 xe xe (by first | rfl | assumption) xpick xsize xnorm ?_
  refine nC (sR ?_)
  refine oM ?_
  first | refine JO.py (Py.nil xe) ?_ | refine JO.py (Py.nilI xe) ?_
  refine JO.py (Py.fld fld237_5 xe xoff) ?_
  refine JO.store siz4 xe ev_const (by first | rfl | assumption) xpick xsize xnorm ?_
  refine nC (sR ?_)
  refine oC ?_
  refine nC (JC.ret ?_)
  refine JX.shut (f := (fun y : {y : Nat × Nat × List Nat // DecOK M y.1 y.2.1 y.2.2 l} => [RdA g S y.1.1 y.1.2.1, S.A y.1.2.2])) (⟨(4294967295, num [x1, x2, x3, x4], rb), hd⟩) xpicks ?_
  refine JX.as (A := Ex fun y : {y : Nat × Nat × List Nat // DecOK M y.1 y.2.1 y.2.2 l} => [RdA g S y.1.1 y.1.2.1, S.A y.1.2.2]) (A' := DecS g S M l) xpick (rfl) ?_
  refine JX.end1 (Or.inl rfl) (g) Tryz.results87 ((xe).trans (by first | exact xval | (dsimp only; exact xval))) xpkE
theorem sc0_con (G : Gst) (X : L2P) (hX : X.Ok) (ur dc : Option Nat) (urv dcv cr : Value) (st pre : Nat) (hst : st = 83 ∨ st = 76 ∨ st = 82) (ea : Addr) (eT : TypeId) (ef : Nat × Nat) :
    Con Tryz.prog G 67 #[.pointer (some ⟨X.rr, 0, none⟩)] [R2C X.rr X.Z.v .nilIface X.dd urv dcv cr st, BndA X ur dc [0] pre, EofA ea eT ef] (fun _ : Unit => eofV ea) (fun _ => [R2C X.rr X.Z.v .nilIface X.dd urv dcv .nilIface 84, EofA ea eT ef]) := by
  obtain ⟨Z, rr, dd, db, all⟩ := X
  have hz := hX.z
  dsimp only at hz ⊢
  refine Con.intro Tryz.func67 rfl (by kernel_rfl) Tryz.ntmps67 (Nat.le_of_ble_eq_true rfl) ?_
  intro F
  show JC _ _ _ _ _ _ [(0, _)] _ [_, _, _, _]
  refine JC.as (A := BndA ⟨Z, rr, dd, db, all⟩ ur dc [0] pre) (A' := Ex fun g : {g : Nat × Nat // Z.stream.drop g.1 = [0]} => [Z.A g.1.1, DictC dd db 65537 pre pre g.1.2, DictD db all pre 65537, urA dd ur, dcA dd dc]) xpick (rfl) ?_
  refine JC.open xpick ?_
  rintro ⟨⟨i, hd0⟩, hd⟩
  show JC _ _ _ _ _ _ _ _ (_ :: _ :: _ :: _ :: _ :: _ :: _ :: _ :: _)
  dsimp only at hd ⊢
  refine sR ?_
  refine oC ?_
  refine nC (sR ?_)
  refine oM ?_
  first | refine JO.py (Py.nil xe) ?_ | refine JO.py (Py.nilI xe) ?_
  refine JO.py (Py.fld fld191_5 xe xoff) ?_
  refine JO.store siz113 xe ev_const (by first | rfl | assumption) xpick xsize xnorm ?_
  refine nC (sR ?_)
  refine oM ?_
  first | refine JO.py (Py.nil xe) ?_ | refine JO.py (Py.nilI xe) ?_
  refine JO.py (Py.fld fld191_0 xe xoff) ?_
  refine JO.py (Py.load scal113 xe xpick xrow) ?_
  refine JO.call (Evs.cons xe Evs.nil) (rh0_con G Z hz i [] hd) xpkE ?_
  rintro h
  show JO _ _ _ _ _ _ _ ((16, _) :: _) _ (_ :: _ :: _ :: _)
  refine oM ?_
  refine JO.py (Py.extrI xe xix) ?_
  refine JO.py (Py.extrI xe xix) ?_
  refine oA ?_
  refine oA ?_
  refine nC (JC.seq (sR ?_))
  refine oM ?_
  first | refine JO.py (Py.neqNil Tryz.underlying70 xe rfl) ?_ | refine JO.py (Py.neqHeld Tryz.underlying70 xe rfl) ?_
  refine nC ?_
  refine cF ?_
  refine JC.skip (JX.code (JC.seq (JC.seq ?_)))
  refine JC.regionM [(0, true), (1, true), (2, true), (3, true), (4, true), (5, true), (6, true), (7, false), (8, true)] mixed (by kernel_rfl) ?_
  refine JM.py ao ⟨fun _ => Py.move xe⟩ ?_
  first | refine JM.py ao ⟨fun _ => Py.nil xe⟩ ?_ | refine JM.py ao ⟨fun _ => Py.nilI xe⟩ ?_
  refine JM.py ao ⟨fun _ => Py.fld fld191_6 xe xoff⟩ ?_
  refine JM.py ao ⟨fun _ => Py.move xe⟩ ?_
  first | refine JM.py ao ⟨fun _ => Py.nil xe⟩ ?_ | refine JM.py ao ⟨fun _ => Py.nilI xe⟩ ?_
  refine JM.py ao ⟨fun _ => Py.fld fld230_0 xe xoff⟩ ?_
  refine JM.ld ao scal228 xe xpick xrow ?_
  refine JM.eff ao ?_
  refine JO.call (Evs.cons xe (Evs.cons xe Evs.nil)) (next_con G rr st 0 84 ⟨hst, .inl ⟨rfl, rfl⟩⟩ Z.v .nilIface (.pointer (some ⟨dd, 0, none⟩)) urv dcv .nilIface) xpkE ?_
  rintro _
  show JO _ _ _ _ _ _ _ ((33, _) :: _) _ (_ :: _ :: _)
  refine JO.nil ?_
  refine JX.mix (Kept.drop (Forced.step (by kernel_rfl)) Kept.nil) ?_
  refine JM.py ao ⟨fun _ => Py.assign xe⟩ ?_
  refine JM.nil (JX.code (sR ?_))
  refine oM ?_
  first | refine JO.py (Py.neqNil Tryz.underlying70 xe rfl) ?_ | refine JO.py (Py.neqHeld Tryz.underlying70 xe rfl) ?_
  refine nC ?_
  refine cF ?_
  refine JC.skip (JX.code (JC.seq (sR ?_)))
  refine oM ?_
  first | refine JO.py (Py.nil xe) ?_ | refine JO.py (Py.nilI xe) ?_
  refine JO.py (Py.fld fld191_6 xe xoff) ?_
  refine JO.py (Py.load scal186 xe xpick xrow) ?_
  first | refine oD (Py.eql xe ev_const) ?_ | refine oU (Py.eql xe ev_const) ?_ | refine JO.py (Py.eql xe ev_const) ?_
  refine nC ?_
  refine cT ?_
  refine sR ?_
  refine JO.py (Py.load scal70 ev_glob xpick xrow) ?_
  refine oA ?_
  refine nC (JC.ret (JX.ret ?_))
  refine JX.end1 (Or.inl rfl) (()) Tryz.results67 ((xe).trans (by first | exact xval | (dsimp only; exact xval))) xpkE
set_option maxRecDepth 100000 in
set_option maxHeartbeats 2000000 in
theorem sc1_con (G : Gst) (X : L2P) (hX : X.Ok) (ur dc : Option Nat) (dcv cr : Value) (st pre x y : Nat) (p after : List Nat) (hst : st = 83 ∨ st = 76 ∨ st = 82) (hx : x < 256) (hy : y < 256) (hp : p.length = x * 256 + y + 1) (ea : Addr) (eT : TypeId) (ef : Nat × Nat) :
    Con Tryz.prog G 67 #[.pointer (some ⟨X.rr, 0, none⟩)] [R2C X.rr X.Z.v .nilIface X.dd (ptV ur) dcv cr st, BndA X ur dc (1 :: x :: y :: (p ++ after)) pre, EofA ea eT ef] (fun _ : Nat => .nilIface) (fun u => [R2C X.rr X.Z.v .nilIface X.dd (.pointer (some ⟨u, 0, none⟩)) dcv (.iface 188 (.pointer (some ⟨u, 0, none⟩))) 82, RawF X u dc p after pre, EofA ea eT ef]) := by
  obtain ⟨Z, rr, dd, db, all⟩ := X
  have hz := hX.z
  dsimp only at hz ⊢
  refine Con.intro Tryz.func67 rfl (by kernel_rfl) Tryz.ntmps67 (Nat.le_of_ble_eq_true rfl) ?_
  intro F
  show JC _ _ _ _ _ _ [(0, _)] _ [_, _, _, _]
  refine JC.as (A := BndA ⟨Z, rr, dd, db, all⟩ ur dc (1 :: x :: y :: (p ++ after)) pre) (A' := Ex fun g : {g : Nat × Nat // Z.stream.drop g.1 = 1 :: x :: y :: (p ++ after)} => [Z.A g.1.1, DictC dd db 65537 pre pre g.1.2, DictD db all pre 65537, urA dd ur, dcA dd dc]) xpick (rfl) ?_
  refine JC.open xpick ?_
  rintro ⟨⟨i, hd0⟩, hd⟩
  show JC _ _ _ _ _ _ _ _ (_ :: _ :: _ :: _ :: _ :: _ :: _ :: _ :: _)
  dsimp only at hd ⊢
  have hd3 : Z.stream.drop (i + 3) = p ++ after := drop_add (l := [1, x, y]) hd rfl
  refine sR ?_
  refine oC ?_
  refine nC (sR ?_)
  refine oM ?_
  first | refine JO.py (Py.nil xe) ?_ | refine JO.py (Py.nilI xe) ?_
  refine JO.py (Py.fld fld191_5 xe xoff) ?_
  refine JO.store siz113 xe ev_const (by first | rfl | assumption) xpick xsize xnorm ?_
  refine nC (sR ?_)
  refine oM ?_
  first | refine JO.py (Py.nil xe) ?_ | refine JO.py (Py.nilI xe) ?_
  refine JO.py (Py.fld fld191_0 xe xoff) ?_
  refine JO.py (Py.load scal113 xe xpick xrow) ?_
  refine JO.call (Evs.cons xe Evs.nil) (rh1_con G Z hz x y hx hy i (p ++ after) hd) xpkE ?_
  rintro h
  show JO _ _ _ _ _ _ _ ((16, _) :: _) _ (_ :: _ :: _ :: _)
  refine oM ?_
  refine JO.py (Py.extrI xe xix) ?_
  refine JO.py (Py.extrI xe xix) ?_
  refine oA ?_
  refine oA ?_
  refine nC (JC.seq (sR ?_))
  refine oM ?_
  first | refine JO.py (Py.neqNil Tryz.underlying70 xe rfl) ?_ | refine JO.py (Py.neqHeld Tryz.underlying70 xe rfl) ?_
  refine nC ?_
  refine cF ?_
  refine JC.skip (JX.code (JC.seq (JC.seq ?_)))
  refine JC.regionM [(0, true), (1, true), (2, true), (3, true), (4, true), (5, true), (6, true), (7, false), (8, true)] mixed (by kernel_rfl) ?_
  refine JM.py ao ⟨fun _ => Py.move xe⟩ ?_
  first | refine JM.py ao ⟨fun _ => Py.nil xe⟩ ?_ | refine JM.py ao ⟨fun _ => Py.nilI xe⟩ ?_
  refine JM.py ao ⟨fun _ => Py.fld fld191_6 xe xoff⟩ ?_
  refine JM.py ao ⟨fun _ => Py.move xe⟩ ?_
  first | refine JM.py ao ⟨fun _ => Py.nil xe⟩ ?_ | refine JM.py ao ⟨fun _ => Py.nilI xe⟩ ?_
  refine JM.py ao ⟨fun _ => Py.fld fld230_0 xe xoff⟩ ?_
  refine JM.ld ao scal228 xe xpick xrow ?_
  refine JM.eff ao ?_
  refine JO.call (Evs.cons xe (Evs.cons xe Evs.nil)) (next_con G rr st 1 82 ⟨hst, .inr (.inl ⟨rfl, rfl⟩)⟩ Z.v .nilIface (.pointer (some ⟨dd, 0, none⟩)) (ptV ur) dcv .nilIface) xpkE ?_
  rintro _
  show JO _ _ _ _ _ _ _ ((33, _) :: _) _ (_ :: _ :: _)
  refine JO.nil ?_
  refine JX.mix (Kept.drop (Forced.step (by kernel_rfl)) Kept.nil) ?_
  refine JM.py ao ⟨fun _ => Py.assign xe⟩ ?_
  refine JM.nil (JX.code (sR ?_))
  refine oM ?_
  first | refine JO.py (Py.neqNil Tryz.underlying70 xe rfl) ?_ | refine JO.py (Py.neqHeld Tryz.underlying70 xe rfl) ?_
  refine nC ?_
  refine cF ?_
  refine JC.skip (JX.code (JC.seq (sR ?_)))
  refine oM ?_
  first | refine JO.py (Py.nil xe) ?_ | refine JO.py (Py.nilI xe) ?_
  refine JO.py (Py.fld fld191_6 xe xoff) ?_
  refine JO.py (Py.load scal186 xe xpick xrow) ?_
  first | refine oD (Py.eql xe ev_const) ?_ | refine oU (Py.eql xe ev_const) ?_ | refine JO.py (Py.eql xe ev_const) ?_
  refine nC ?_
  refine cF ?_
  refine JC.skip (JX.code (JC.seq (sR ?_)))
  refine oM ?_
  first | refine JO.py (Py.nil xe) ?_ | refine JO.py (Py.nilI xe) ?_
  refine JO.py (Py.fld fld230_0 xe xoff) ?_
  refine JO.py (Py.load scal228 xe xpick xrow) ?_
  first | refine oD (Py.eql xe ev_const) ?_ | refine oU (Py.eql xe ev_const) ?_ | refine JO.py (Py.eql xe ev_const) ?_
  refine oM ?_
  first | (refine gF ?_; (refine oM ?_)) | refine kT ?_
  first | (refine gF ?_; (first | refine JO.py (Py.nil xe) ?_ | refine JO.py (Py.nilI xe) ?_)) | refine kT ?_
  first | (refine gF ?_; (refine JO.py (Py.fld fld230_0 xe xoff) ?_)) | refine kT ?_
  first | (refine gF ?_; (refine JO.py (Py.load scal228 xe xpick xrow) ?_)) | refine kT ?_
  first | (refine gF ?_; (first | refine oD (Py.eql xe ev_const) ?_ | refine oU (Py.eql xe ev_const) ?_ | refine JO.py (Py.eql xe ev_const) ?_)) | refine kT ?_
  first | refine JO.py (Py.pickT xe ev_const) ?_ | refine JO.py (Py.pickF xe xe) ?_
  refine nC ?_
  refine cT ?_
  refine JC.region ?_
  refine oM ?_
  first | refine JO.py (Py.nil xe) ?_ | refine JO.py (Py.nilI xe) ?_
  refine JO.py (Py.fld fld191_2 xe xoff) ?_
  refine JO.py (Py.load scal187 xe xpick xrow) ?_
  refine JO.call (Evs.cons xe Evs.nil) (dictReset_con G dd db 65537 pre pre hd0) xpkE ?_
  rintro _
  show JO _ _ _ _ _ _ _ ((59, _) :: _) _ (_ :: _ :: _)
  refine nC (sR ?_)
  refine oM ?_
  first | refine JO.py (Py.nil xe) ?_ | refine JO.py (Py.nilI xe) ?_
  refine JO.py (Py.fld fld230_1 xe xoff) ?_
  refine JO.py (Py.load scal45 xe xpick xrow) ?_
  first | refine JO.py (Py.conv cnv45_2 xe wI) ?_ | refine JO.py (Py.conv cnv45_2 xe rfl) ?_
  refine JO.py (Py.add xe ev_const wI) ?_
  refine oA ?_
  refine nC (JC.seq (sR ?_))
  refine oM ?_
  first | refine JO.py (Py.nil xe) ?_ | refine JO.py (Py.nilI xe) ?_
  refine JO.py (Py.fld fld230_0 xe xoff) ?_
  refine JO.py (Py.load scal228 xe xpick xrow) ?_
  refine JO.call (Evs.cons xe Evs.nil) (unc1_con G) xpkE ?_
  rintro _
  show JO _ _ _ _ _ _ _ ((70, _) :: _) _ (_ :: _)
  refine nC ?_
  refine cT ?_
  refine JC.seq (sR ?_)
  refine oM ?_
  first | refine JO.py (Py.nil xe) ?_ | refine JO.py (Py.nilI xe) ?_
  refine JO.py (Py.fld fld191_3 xe xoff) ?_
  refine JO.py (Py.load scal188 xe xpick xrow) ?_
  cases ur with
  | none =>
    rw [show ptV none = .pointer none from rfl]
    refine JO.py (Py.neqP Tryz.underlying188 xe (c := false) rfl) ?_
    refine nC ?_
    refine cF ?_
    refine JC.regionM [(0, true), (1, true), (2, true), (3, true), (4, true), (5, true), (6, true), (7, true), (8, true), (9, true), (10, false), (11, true), (12, true), (13, false)] mixed (by kernel_rfl) ?_
    refine JM.py ao ⟨fun _ => Py.move xe⟩ ?_
    refine JM.py ao ⟨fun _ => Py.move xe⟩ ?_
    first | refine JM.py ao ⟨fun _ => Py.nil xe⟩ ?_ | refine JM.py ao ⟨fun _ => Py.nilI xe⟩ ?_
    refine JM.py ao ⟨fun _ => Py.fld fld191_0 xe xoff⟩ ?_
    refine JM.ld ao scal113 xe xpick xrow ?_
    refine JM.py ao ⟨fun _ => Py.move xe⟩ ?_
    first | refine JM.py ao ⟨fun _ => Py.nil xe⟩ ?_ | refine JM.py ao ⟨fun _ => Py.nilI xe⟩ ?_
    refine JM.py ao ⟨fun _ => Py.fld fld191_2 xe xoff⟩ ?_
    refine JM.ld ao scal187 xe xpick xrow ?_
    refine JM.py ao ⟨fun _ => Py.move xe⟩ ?_
    rw [show (((x * 256 + y : Nat) : Int) + 1) = (p.length : Int) by omega]
    refine JM.eff ao ?_
    refine JO.call (Evs.cons xe (Evs.cons xe (Evs.cons xe Evs.nil))) (newUr_con G Z.v dd (p.length : Int) rfl) xpkE ?_
    rintro u
    show JO _ _ _ _ _ _ _ ((96, _) :: _) _ (_ :: _ :: _)
    refine JO.nil ?_
    refine JX.mix (Kept.drop (Forced.step (by kernel_rfl)) (Kept.drop (Forced.step (by kernel_rfl)) Kept.nil)) ?_
    first | refine JM.py ao ⟨fun _ => Py.nil xe⟩ ?_ | refine JM.py ao ⟨fun _ => Py.nilI xe⟩ ?_
    refine JM.py ao ⟨fun _ => Py.fld fld191_3 xe xoff⟩ ?_
    refine JM.eff ao ?_
    refine JO.store siz188 xe xe (by first | rfl | assumption) xpick xsize xnorm ?_
    refine JO.nil ?_
    refine JX.mix Kept.nil ?_
    refine JM.nil (JX.code (sR ?_))
    refine oM ?_
    refine oM ?_
    first | refine JO.py (Py.nil xe) ?_ | refine JO.py (Py.nilI xe) ?_
    refine JO.py (Py.fld fld191_3 xe xoff) ?_
    refine JO.py (Py.load scal188 xe xpick xrow) ?_
    refine JO.py (Py.mki mki188 xe) ?_
    first | refine JO.py (Py.nil xe) ?_ | refine JO.py (Py.nilI xe) ?_
    refine JO.py (Py.fld fld191_5 xe xoff) ?_
    refine JO.store siz113 xe xe (by first | rfl | assumption) xpick xsize xnorm ?_
    refine nC (sR ?_)
    refine oC ?_
    refine nC (JC.ret (JX.ret ?_))
    refine JX.shut (f := fun i : {i : Nat // Z.stream.drop i = p ++ after} => [UrC dd u Z.v (p.length : Int) false .nilIface, Z.A i.1, DictC dd db 65537 pre pre 0, DictD db all pre 65537, dcA dd dc]) ⟨i + 3, hd3⟩ xpicks ?_
    refine JX.as (A := Ex fun i : {i : Nat // Z.stream.drop i = p ++ after} => [UrC dd u Z.v (p.length : Int) false .nilIface, Z.A i.1, DictC dd db 65537 pre pre 0, DictD db all pre 65537, dcA dd dc]) (A' := RawF ⟨Z, rr, dd, db, all⟩ u dc p after pre) xpick (rfl) ?_
    refine JX.end1 (Or.inl rfl) (u) Tryz.results67 ((xe).trans (by first | exact xval | (dsimp only; exact xval))) xpkE
  | some u =>
    rw [show ptV (some u) = .pointer (some ⟨u, 0, none⟩) from rfl]
    refine JO.py (Py.neqP Tryz.underlying188 xe (c := true) rfl) ?_
    refine nC ?_
    refine cT ?_
    refine JC.regionM [(0, true), (1, true), (2, true), (3, true), (4, true), (5, true), (6, true), (7, true), (8, true), (9, false)] mixed (by kernel_rfl) ?_
    refine JM.py ao ⟨fun _ => Py.move xe⟩ ?_
    first | refine JM.py ao ⟨fun _ => Py.nil xe⟩ ?_ | refine JM.py ao ⟨fun _ => Py.nilI xe⟩ ?_
    refine JM.py ao ⟨fun _ => Py.fld fld191_3 xe xoff⟩ ?_
    refine JM.ld ao scal188 xe xpick xrow ?_
    refine JM.py ao ⟨fun _ => Py.move xe⟩ ?_
    first | refine JM.py ao ⟨fun _ => Py.nil xe⟩ ?_ | refine JM.py ao ⟨fun _ => Py.nilI xe⟩ ?_
    refine JM.py ao ⟨fun _ => Py.fld fld191_0 xe xoff⟩ ?_
    refine JM.ld ao scal113 xe xpick xrow ?_
    refine JM.py ao ⟨fun _ => Py.move xe⟩ ?_
    rw [show (((x * 256 + y : Nat) : Int) + 1) = (p.length : Int) by omega]
    refine JM.as (A := urA dd (some u)) (A' := Ex fun x : Value × Int × Bool × Value => [UrC dd u x.1 x.2.1 x.2.2.1 x.2.2.2]) xpick (rfl) ?_
    refine JM.open xpick ?_
    rintro ⟨R0, N0, b0, e0⟩
    show JM _ _ _ _ _ _ _ _ _ _ (_ :: _ :: _ :: _ :: _ :: _ :: _ :: _ :: _)
    dsimp only
    refine JM.eff ao ?_
    refine JO.call (Evs.cons xe (Evs.cons xe (Evs.cons xe Evs.nil))) (urReopen_con G u 88 (.agg #[.pointer (some ⟨Z.r, 0, none⟩)]) R0 (.pointer (some ⟨dd, 0, none⟩)) e0 (p.length : Int) N0 b0) xpkE ?_
    rintro _
    show JO _ _ _ _ _ _ _ ((85, _) :: _) _ (_ :: _ :: _)
    refine JO.nil ?_
    refine JX.mix (Kept.drop (Forced.step (by kernel_rfl)) (Kept.drop (Forced.step (by kernel_rfl)) Kept.nil)) ?_
    refine JM.nil (JX.code (sR ?_))
    refine oM ?_
    refine oM ?_
    first | refine JO.py (Py.nil xe) ?_ | refine JO.py (Py.nilI xe) ?_
    refine JO.py (Py.fld fld191_3 xe xoff) ?_
    refine JO.py (Py.load scal188 xe xpick xrow) ?_
    refine JO.py (Py.mki mki188 xe) ?_
    first | refine JO.py (Py.nil xe) ?_ | refine JO.py (Py.nilI xe) ?_
    refine JO.py (Py.fld fld191_5 xe xoff) ?_
    refine JO.store siz113 xe xe (by first | rfl | assumption) xpick xsize xnorm ?_
    refine nC (sR ?_)
    refine oC ?_
    refine nC (JC.ret (JX.ret ?_))
    refine JX.shut (f := fun i : {i : Nat // Z.stream.drop i = p ++ after} => [UrC dd u Z.v (p.length : Int) false .nilIface, Z.A i.1, DictC dd db 65537 pre pre 0, DictD db all pre 65537, dcA dd dc]) ⟨i + 3, hd3⟩ xpicks ?_
    refine JX.as (A := Ex fun i : {i : Nat // Z.stream.drop i = p ++ after} => [UrC dd u Z.v (p.length : Int) false .nilIface, Z.A i.1, DictC dd db 65537 pre pre 0, DictD db all pre 65537, dcA dd dc]) (A' := RawF ⟨Z, rr, dd, db, all⟩ u dc p after pre) xpick (rfl) ?_
    refine JX.end1 (Or.inl rfl) (u) Tryz.results67 ((xe).trans (by first | exact xval | (dsimp only; exact xval))) xpkE
end Go.Proofs.YtfpepghmbeoanaaGreatDoor
end

section
open Go Go.RowKit
namespace Go.Proofs.YtfpepghmbeoanaaGreatDoor
open Lz
/-- A packed chunk's text and bytes. -/
structure PkOk (X : L2P) (c : Cfg) (p : List Nat) (pre : Nat) (l : List Sym) (x1 x2 x3 x4 : Nat) (rb : List Nat) : Prop where
  s : StreamOk c p l x1 x2 x3 x4 rb
  a : AtP X p pre
theorem PkOk.at2 {X : L2P} (hX : X.Ok) {c : Cfg} {p : List Nat} {pre : Nat} {l : List Sym} {x1 x2 x3 x4 : Nat} {rb : List Nat} (h : PkOk X c p pre l x1 x2 x3 x4 rb) : At2 X.all p pre := ⟨fun j hj => (h.a.eq j hj).symm, hX.by'⟩
/-- The chunk that is begun. -/
abbrev PkI (G : Gst) (X : L2P) (p after : List Nat) (pre : Nat) : Type := {Y : PkP G X // Y.K.pre = pre ∧ Y.K.bs = p ∧ Y.S.after = after}
abbrev mkPk (G : Gst) (X : L2P) (hX : X.Ok) (c : Cfg) (p after : List Nat) (pre : Nat) (l : List Sym) (x1 x2 x3 x4 : Nat) (rb : List Nat) (h : PkOk X c p pre l x1 x2 x3 x4 rb) (br lm pb : Nat) (d sb g : Nat) (T : Tab) (hT : RowsD T c) : PkI G X p after pre :=
  ⟨{ S := ⟨X.Z, br, lm, pb, after⟩, hS := hX.z, hZ := rfl, K := ⟨CkS.src G ⟨X.Z, br, lm, pb, after⟩ hX.z, T, c, d, X.dd, X.db, sb, g, 65537, pre, X.all, p, l⟩,
     ok := ⟨h.s.ok, hT, h.at2 hX, h.s.v, h.s.r, h.s.pos, by have h1 := h.s.len; have h2 := hX.len; have h3 := h.a.fit; dsimp only; omega⟩, R := rfl, dd := rfl, db := rfl, n := rfl, all := rfl }, rfl, rfl, rfl⟩
set_option maxRecDepth 100000 in
set_option maxHeartbeats 4000000 in
theorem sc6_con (G : Gst) (X : L2P) (hX : X.Ok) (ur dc : Option Nat) (urv cr : Value) (st pre x y z w q : Nat) (c : Cfg) (p after : List Nat) (l : List Sym) (x1 x2 x3 x4 : Nat) (rb : List Nat) (h : PkOk X c p pre l x1 x2 x3 x4 rb) (hst : st = 83 ∨ st = 76 ∨ st = 82)
    (hx : x < 256) (hy : y < 256) (hz : z < 256) (hw : w < 256) (hq : q = c.lc + 9 * (c.lp + 5 * c.pb)) (hp : p.length = x * 256 + y + 1) (hk : rb.length + 5 = z * 256 + w + 1) (ea : Addr) (eT : TypeId) (ef : Nat × Nat) :
    Con Tryz.prog G 67 #[.pointer (some ⟨X.rr, 0, none⟩)] [R2C X.rr X.Z.v .nilIface X.dd urv (ptV dc) cr st, BndA X ur dc (224 :: x :: y :: z :: w :: q :: (0 :: x1 :: x2 :: x3 :: x4 :: rb ++ after)) pre, EofA ea eT ef] (fun _ : PkI G X p after pre => .nilIface)
      (fun Y => [R2C X.rr X.Z.v .nilIface X.dd urv (.pointer (some ⟨Y.1.K.d, 0, none⟩)) (.iface 189 (.pointer (some ⟨Y.1.K.d, 0, none⟩))) 76, DecSt Y.1.K true pre, urA X.dd ur, EofA ea eT ef]) := by
  have hc := h.s.ok
  obtain ⟨Z, rr, dd, db, all⟩ := X
  have hz' := hX.z
  dsimp only at hz' ⊢
  have hs := h.s
  refine Con.intro Tryz.func67 rfl (by kernel_rfl) Tryz.ntmps67 (Nat.le_of_ble_eq_true rfl) ?_
  intro F
  show JC _ _ _ _ _ _ [(0, _)] _ [_, _, _, _]
  refine JC.as (A := BndA ⟨Z, rr, dd, db, all⟩ ur dc (224 :: x :: y :: z :: w :: q :: (0 :: x1 :: x2 :: x3 :: x4 :: rb ++ after)) pre) (A' := Ex fun g : {g : Nat × Nat // Z.stream.drop g.1 = 224 :: x :: y :: z :: w :: q :: (0 :: x1 :: x2 :: x3 :: x4 :: rb ++ after)} => [Z.A g.1.1, DictC dd db 65537 pre pre g.1.2, DictD db all pre 65537, urA dd ur, dcA dd dc]) xpick (rfl) ?_
  refine JC.open xpick ?_
  rintro ⟨⟨i, hd0⟩, hd⟩
  show JC _ _ _ _ _ _ _ _ (_ :: _ :: _ :: _ :: _ :: _ :: _ :: _ :: _)
  dsimp only at hd ⊢
  have hd6 : Z.stream.drop (i + 6) = (0 :: x1 :: x2 :: x3 :: x4 :: rb) ++ after := drop_add (l := [224, x, y, z, w, q]) hd rfl
  refine sR ?_
  refine oC ?_
  refine nC (sR ?_)
  refine oM ?_
  first | refine JO.py (Py.nil xe) ?_ | refine JO.py (Py.nilI xe) ?_
  refine JO.py (Py.fld fld191_5 xe xoff) ?_
  refine JO.store siz113 xe ev_const (by first | rfl | assumption) xpick xsize xnorm ?_
  refine nC (sR ?_)
  refine oM ?_
  first | refine JO.py (Py.nil xe) ?_ | refine JO.py (Py.nilI xe) ?_
  refine JO.py (Py.fld fld191_0 xe xoff) ?_
  refine JO.py (Py.load scal113 xe xpick xrow) ?_
  refine JO.call (Evs.cons xe Evs.nil) (rh6_con G Z hz' c hc x y z w q hx hy hz hw hq i ((0 :: x1 :: x2 :: x3 :: x4 :: rb) ++ after) hd) xpkE ?_
  rintro hh
  show JO _ _ _ _ _ _ _ ((16, _) :: _) _ (_ :: _ :: _ :: _)
  refine oM ?_
  refine JO.py (Py.extrI xe xix) ?_
  refine JO.py (Py.extrI xe xix) ?_
  refine oA ?_
  refine oA ?_
  refine nC (JC.seq (sR ?_))
  refine oM ?_
  first | refine JO.py (Py.neqNil Tryz.underlying70 xe rfl) ?_ | refine JO.py (Py.neqHeld Tryz.underlying70 xe rfl) ?_
  refine nC ?_
  refine cF ?_
  refine JC.skip (JX.code (JC.seq (JC.seq ?_)))
  refine JC.regionM [(0, true), (1, true), (2, true), (3, true), (4, true), (5, true), (6, true), (7, false), (8, true)] mixed (by kernel_rfl) ?_
  refine JM.py ao ⟨fun _ => Py.move xe⟩ ?_
  first | refine JM.py ao ⟨fun _ => Py.nil xe⟩ ?_ | refine JM.py ao ⟨fun _ => Py.nilI xe⟩ ?_
  refine JM.py ao ⟨fun _ => Py.fld fld191_6 xe xoff⟩ ?_
  refine JM.py ao ⟨fun _ => Py.move xe⟩ ?_
  first | refine JM.py ao ⟨fun _ => Py.nil xe⟩ ?_ | refine JM.py ao ⟨fun _ => Py.nilI xe⟩ ?_
  refine JM.py ao ⟨fun _ => Py.fld fld230_0 xe xoff⟩ ?_
  refine JM.ld ao scal228 xe xpick xrow ?_
  refine JM.eff ao ?_
  refine JO.call (Evs.cons xe (Evs.cons xe Evs.nil)) (next_con G rr st 6 76 ⟨hst, .inr (.inr ⟨rfl, rfl⟩)⟩ Z.v .nilIface (.pointer (some ⟨dd, 0, none⟩)) urv (ptV dc) .nilIface) xpkE ?_
  rintro _
  show JO _ _ _ _ _ _ _ ((33, _) :: _) _ (_ :: _ :: _)
  refine JO.nil ?_
  refine JX.mix (Kept.drop (Forced.step (by kernel_rfl)) Kept.nil) ?_
  refine JM.py ao ⟨fun _ => Py.assign xe⟩ ?_
  refine JM.nil (JX.code (sR ?_))
  refine oM ?_
  first | refine JO.py (Py.neqNil Tryz.underlying70 xe rfl) ?_ | refine JO.py (Py.neqHeld Tryz.underlying70 xe rfl) ?_
  refine nC ?_
  refine cF ?_
  refine JC.skip (JX.code (JC.seq (sR ?_)))
  refine oM ?_
  first | refine JO.py (Py.nil xe) ?_ | refine JO.py (Py.nilI xe) ?_
  refine JO.py (Py.fld fld191_6 xe xoff) ?_
  refine JO.py (Py.load scal186 xe xpick xrow) ?_
  first | refine oD (Py.eql xe ev_const) ?_ | refine oU (Py.eql xe ev_const) ?_ | refine JO.py (Py.eql xe ev_const) ?_
  refine nC ?_
  refine cF ?_
  refine JC.skip (JX.code (JC.seq (sR ?_)))
  refine oM ?_
  first | refine JO.py (Py.nil xe) ?_ | refine JO.py (Py.nilI xe) ?_
  refine JO.py (Py.fld fld230_0 xe xoff) ?_
  refine JO.py (Py.load scal228 xe xpick xrow) ?_
  first | refine oD (Py.eql xe ev_const) ?_ | refine oU (Py.eql xe ev_const) ?_ | refine JO.py (Py.eql xe ev_const) ?_
  refine oM ?_
  first | (refine gF ?_; (refine oM ?_)) | refine kT ?_
  first | (refine gF ?_; (first | refine JO.py (Py.nil xe) ?_ | refine JO.py (Py.nilI xe) ?_)) | refine kT ?_
  first | (refine gF ?_; (refine JO.py (Py.fld fld230_0 xe xoff) ?_)) | refine kT ?_
  first | (refine gF ?_; (refine JO.py (Py.load scal228 xe xpick xrow) ?_)) | refine kT ?_
  first | (refine gF ?_; (first | refine oD (Py.eql xe ev_const) ?_ | refine oU (Py.eql xe ev_const) ?_ | refine JO.py (Py.eql xe ev_const) ?_)) | refine kT ?_
  first | refine JO.py (Py.pickT xe ev_const) ?_ | refine JO.py (Py.pickF xe xe) ?_
  refine nC ?_
  refine cT ?_
  refine JC.region ?_
  refine oM ?_
  first | refine JO.py (Py.nil xe) ?_ | refine JO.py (Py.nilI xe) ?_
  refine JO.py (Py.fld fld191_2 xe xoff) ?_
  refine JO.py (Py.load scal187 xe xpick xrow) ?_
  refine JO.call (Evs.cons xe Evs.nil) (dictReset_con G dd db 65537 pre pre hd0) xpkE ?_
  rintro _
  show JO _ _ _ _ _ _ _ ((59, _) :: _) _ (_ :: _ :: _)
  refine nC (sR ?_)
  refine oM ?_
  first | refine JO.py (Py.nil xe) ?_ | refine JO.py (Py.nilI xe) ?_
  refine JO.py (Py.fld fld230_1 xe xoff) ?_
  refine JO.py (Py.load scal45 xe xpick xrow) ?_
  first | refine JO.py (Py.conv cnv45_2 xe wI) ?_ | refine JO.py (Py.conv cnv45_2 xe rfl) ?_
  refine JO.py (Py.add xe ev_const wI) ?_
  refine oA ?_
  refine nC (JC.seq (sR ?_))
  refine oM ?_
  first | refine JO.py (Py.nil xe) ?_ | refine JO.py (Py.nilI xe) ?_
  refine JO.py (Py.fld fld230_0 xe xoff) ?_
  refine JO.py (Py.load scal228 xe xpick xrow) ?_
  refine JO.call (Evs.cons xe Evs.nil) (unc6_con G) xpkE ?_
  rintro _
  show JO _ _ _ _ _ _ _ ((70, _) :: _) _ (_ :: _)
  refine nC ?_
  refine cF ?_
  refine JC.skip (JX.code (JC.seq ?_))
  refine JC.regionM [(0, true), (1, true), (2, true), (3, true), (4, true), (5, true), (6, true), (7, true), (8, true), (9, true), (10, false), (11, false), (12, true)] mixed (by kernel_rfl) ?_
  refine JM.py ao ⟨fun _ => Py.move xe⟩ ?_
  first | refine JM.py ao ⟨fun _ => Py.nil xe⟩ ?_ | refine JM.py ao ⟨fun _ => Py.nilI xe⟩ ?_
  refine JM.py ao ⟨fun _ => Py.fld fld191_0 xe xoff⟩ ?_
  refine JM.ld ao scal113 xe xpick xrow ?_
  refine JM.py ao ⟨fun _ => Py.move xe⟩ ?_
  first | refine JM.py ao ⟨fun _ => Py.nil xe⟩ ?_ | refine JM.py ao ⟨fun _ => Py.nilI xe⟩ ?_
  refine JM.py ao ⟨fun _ => Py.fld fld230_2 xe xoff⟩ ?_
  refine JM.ld ao scal61 xe xpick xrow ?_
  first | refine JM.py ao ⟨fun _ => Py.conv cnv61_2 xe wI⟩ ?_ | refine JM.py ao ⟨fun _ => Py.conv cnv61_2 xe rfl⟩ ?_
  refine JM.py ao ⟨fun _ => Py.add xe ev_const wI⟩ ?_
  rw [show (((z * 256 + w : Nat) : Int) + 1) = (((0 :: x1 :: x2 :: x3 :: x4 :: rb).length : Nat) : Int) by simp; omega]
  refine JM.eff ao ?_
  refine JO.call (Evs.cons xe (Evs.cons xe Evs.nil)) (limReader_con G Z.v (((0 :: x1 :: x2 :: x3 :: x4 :: rb).length : Nat) : Int) rfl) xpkE ?_
  rintro lm
  show JO _ _ _ _ _ _ _ ((117, _) :: _) _ (_ :: _ :: _)
  refine JO.nil ?_
  refine JX.mix (Kept.drop (Forced.trans (q := 8) (Forced.step (by kernel_rfl)) (Forced.trans (q := 9) (Forced.step (by kernel_rfl)) (Forced.step (by kernel_rfl)))) (Kept.drop (Forced.step (by kernel_rfl)) Kept.nil)) ?_
  refine JM.eff ao ?_
  refine JO.call (Evs.cons xe Evs.nil) (byteRdW_con G (.pointer (some ⟨lm, 0, none⟩)) rfl) xpkE ?_
  rintro ⟨br, pb⟩
  show JO _ _ _ _ _ _ _ ((118, _) :: _) _ (_ :: _ :: _ :: _)
  dsimp only
  refine JO.nil ?_
  refine JX.mix Kept.nil ?_
  refine JM.py ao ⟨fun _ => Py.assign xe⟩ ?_
  refine JM.nil (JX.code (JC.seq (sR ?_)))
  refine oM ?_
  first | refine JO.py (Py.nil xe) ?_ | refine JO.py (Py.nilI xe) ?_
  refine JO.py (Py.fld fld191_4 xe xoff) ?_
  refine JO.py (Py.load scal189 xe xpick xrow) ?_
  refine JO.shut (f := fun g : {g : Nat × Value // Z.stream.drop g.1 = (0 :: x1 :: x2 :: x3 :: x4 :: rb) ++ after} => CkS.cells ⟨Z, br, lm, pb, after⟩ (0 :: x1 :: x2 :: x3 :: x4 :: rb).length g.1.1 g.1.2) ⟨(i + 6, .int .u8 0), hd6⟩ xpicks ?_
  refine JO.as (A := Ex fun g : {g : Nat × Value // Z.stream.drop g.1 = (0 :: x1 :: x2 :: x3 :: x4 :: rb) ++ after} => CkS.cells ⟨Z, br, lm, pb, after⟩ (0 :: x1 :: x2 :: x3 :: x4 :: rb).length g.1.1 g.1.2) (A' := CkS.A ⟨Z, br, lm, pb, after⟩ (0 :: x1 :: x2 :: x3 :: x4 :: rb)) xpick (rfl) ?_
  have hnd : ∀ sb, Con Tryz.prog G 73 #[.iface 274 (.pointer (some ⟨br, 0, none⟩)), .pointer (some ⟨sb, 0, none⟩), .pointer (some ⟨dd, 0, none⟩), .int .i64 (p.length : Int)] [CkS.A ⟨Z, br, lm, pb, after⟩ (0 :: x1 :: x2 :: x3 :: x4 :: rb), DictC dd db 65537 pre pre 0]
      (fun x : Nat × Nat => .tuple #[.pointer (some ⟨x.1, 0, none⟩), .nilIface]) (fun x => [DecC x.1 dd sb x.2 0 p.length false, DictC dd db 65537 pre pre 0, DecS x.2 (CkS.src G ⟨Z, br, lm, pb, after⟩ hz') M0 (symsEv c p LzS.start l)]) :=
    fun sb => newDec_con G (CkS.src G ⟨Z, br, lm, pb, after⟩ hz') x1 x2 x3 x4 rb hs.h1 hs.h2 hs.h3 hs.h4 hs.n sb dd db 65537 pre pre p.length M0 _ hs.d
  have hro : ∀ d sb g0 s0 z0 b0, Con Tryz.prog G 87 #[.pointer (some ⟨d, 0, none⟩), .iface 274 (.pointer (some ⟨br, 0, none⟩)), .int .i64 (p.length : Int)] [DecC d dd sb g0 s0 z0 b0, CkS.A ⟨Z, br, lm, pb, after⟩ (0 :: x1 :: x2 :: x3 :: x4 :: rb), DictC dd db 65537 pre pre 0]
      (fun _ : Nat => .nilIface) (fun g => [DecC d dd sb g 0 p.length false, DictC dd db 65537 pre pre 0, DecS g (CkS.src G ⟨Z, br, lm, pb, after⟩ hz') M0 (symsEv c p LzS.start l)]) :=
    fun d sb g0 s0 z0 b0 => reopen_con G (CkS.src G ⟨Z, br, lm, pb, after⟩ hz') x1 x2 x3 x4 rb hs.h1 hs.h2 hs.h3 hs.h4 hs.n d sb dd db 65537 pre pre p.length g0 s0 z0 b0 M0 _ hs.d
  have hsize : ((x * 256 + y : Nat) : Int) + 1 = (p.length : Int) := by omega
  rw [hsize]
  cases dc with
  | none =>
    rw [show ptV none = .pointer none from rfl]
    refine JO.py (Py.eqlP Tryz.underlying189 xe (c := true) rfl) ?_
    refine nC ?_
    refine cT ?_
    refine sR ?_
    refine oM ?_
    first | refine JO.py (Py.nil xe) ?_ | refine JO.py (Py.nilI xe) ?_
    refine JO.py (Py.fld fld230_3 xe xoff) ?_
    refine JO.py (Py.loadA (vs := #[.int .i64 (c.lc : Int), .int .i64 (c.lp : Int), .int .i64 (c.pb : Int)]) agg196 xe xpick (by first | exact Nat.le_of_ble_eq_true rfl | assumption | (simp; omega) | fail) (by rfl)) ?_
    refine JO.call (Evs.cons xe Evs.nil) (newState_con G c hc) xpkE ?_
    rintro ⟨sb, T, hT⟩
    show JO _ _ _ _ _ _ _ ((128, _) :: _) _ (_ :: _ :: _ :: _)
    dsimp only
    refine oA ?_
    refine nC (sR ?_)
    refine oM ?_
    refine oM ?_
    refine oM ?_
    refine oM ?_
    first | refine JO.py (Py.nil xe) ?_ | refine JO.py (Py.nilI xe) ?_
    refine JO.py (Py.fld fld191_2 xe xoff) ?_
    refine JO.py (Py.load scal187 xe xpick xrow) ?_
    refine oM ?_
    refine JO.call (Evs.cons xe (Evs.cons xe (Evs.cons xe (Evs.cons xe Evs.nil)))) (hnd sb) xpkE ?_
    rintro ⟨d, g⟩
    show JO _ _ _ _ _ _ _ ((138, _) :: _) _ (_ :: _ :: _ :: _ :: _)
    dsimp only
    refine oM ?_
    refine JO.py (Py.extrI xe xix) ?_
    refine JO.py (Py.extrI xe xix) ?_
    first | refine JO.py (Py.nil xe) ?_ | refine JO.py (Py.nilI xe) ?_
    refine JO.py (Py.fld fld191_4 xe xoff) ?_
    refine JO.store siz189 xe xe (by first | rfl | assumption) xpick xsize xnorm ?_
    refine oA ?_
    refine nC (JC.seq (sR ?_))
    refine oM ?_
    first | refine JO.py (Py.neqNil Tryz.underlying70 xe rfl) ?_ | refine JO.py (Py.neqHeld Tryz.underlying70 xe rfl) ?_
    refine nC ?_
    refine cF ?_
    refine JC.skip (JX.code (sR ?_))
    refine oM ?_
    refine oM ?_
    first | refine JO.py (Py.nil xe) ?_ | refine JO.py (Py.nilI xe) ?_
    refine JO.py (Py.fld fld191_4 xe xoff) ?_
    refine JO.py (Py.load scal189 xe xpick xrow) ?_
    refine JO.py (Py.mki mki189 xe) ?_
    first | refine JO.py (Py.nil xe) ?_ | refine JO.py (Py.nilI xe) ?_
    refine JO.py (Py.fld fld191_5 xe xoff) ?_
    refine JO.store siz113 xe xe (by first | rfl | assumption) xpick xsize xnorm ?_
    refine nC (sR ?_)
    refine oC ?_
    refine nC (JC.ret (JX.ret ?_))
    refine JX.shut (f := (fun _ : Unit => [DecC d dd sb g 0 p.length false, DictC dd db 65537 pre pre 0, DictD db all pre 65537, cel sb 270 (stC T M0 c LzS.start.regs), ChD T M0, DecS g (CkS.src G ⟨Z, br, lm, pb, after⟩ hz') M0 (symsEv c p LzS.start l)])) (()) xpicks ?_
    refine JX.as (A := Ex fun _ : Unit => [DecC d dd sb g 0 p.length false, DictC dd db 65537 pre pre 0, DictD db all pre 65537, cel sb 270 (stC T M0 c LzS.start.regs), ChD T M0, DecS g (CkS.src G ⟨Z, br, lm, pb, after⟩ hz') M0 (symsEv c p LzS.start l)]) (A' := DecSt (mkPk G ⟨Z, rr, dd, db, all⟩ hX c p after pre l x1 x2 x3 x4 rb h br lm pb d sb g T hT).1.K true pre) xpick (rfl) ?_
    refine JX.end1 (Or.inl rfl) (mkPk G ⟨Z, rr, dd, db, all⟩ hX c p after pre l x1 x2 x3 x4 rb h br lm pb d sb g T hT) Tryz.results67 ((xe).trans (by first | exact xval | (dsimp only; exact xval))) xpkE
  | some d =>
    rw [show ptV (some d) = .pointer (some ⟨d, 0, none⟩) from rfl]
    refine JO.as (A := dcA dd (some d)) (A' := Ex fun x : Nat × Nat × Nat × Nat × Bool => [DecC d dd x.1 x.2.1 x.2.2.1 x.2.2.2.1 x.2.2.2.2]) xpick (rfl) ?_
    refine JO.open xpick ?_
    rintro ⟨sb0, g0, s0, z0, b0⟩
    show JO _ _ _ _ _ _ _ _ _ (_ :: _ :: _ :: _ :: _ :: _ :: _ :: _ :: _ :: _)
    dsimp only
    refine JO.py (Py.eqlP Tryz.underlying189 xe (c := false) rfl) ?_
    refine nC ?_
    refine cF ?_
    refine JC.skip (JX.code (JC.seq (sR ?_)))
    refine oM ?_
    first | refine JO.py (Py.nil xe) ?_ | refine JO.py (Py.nilI xe) ?_
    refine JO.py (Py.fld fld230_0 xe xoff) ?_
    refine JO.py (Py.load scal228 xe xpick xrow) ?_
    refine nC (JC.block (sR ?_))
    first | refine oD (Py.eql xe ev_const) ?_ | refine oU (Py.eql xe ev_const) ?_ | refine JO.py (Py.eql xe ev_const) ?_
    refine oA ?_
    refine nC ?_
    refine cF ?_
    refine JC.seq (sR ?_)
    first | refine oD (Py.eql xe ev_const) ?_ | refine oU (Py.eql xe ev_const) ?_ | refine JO.py (Py.eql xe ev_const) ?_
    refine oA ?_
    refine nC ?_
    refine cF ?_
    refine JC.region ?_
    first | refine oD (Py.eql xe ev_const) ?_ | refine oU (Py.eql xe ev_const) ?_ | refine JO.py (Py.eql xe ev_const) ?_
    refine oA ?_
    refine nC ?_
    refine cT ?_
    refine JC.regionM [(0, true), (1, true), (2, true), (3, true), (4, true), (5, true), (6, true), (7, true), (8, false), (9, true), (10, true), (11, false)] mixed (by kernel_rfl) ?_
    refine JM.py ao ⟨fun _ => Py.move xe⟩ ?_
    first | refine JM.py ao ⟨fun _ => Py.nil xe⟩ ?_ | refine JM.py ao ⟨fun _ => Py.nilI xe⟩ ?_
    refine JM.py ao ⟨fun _ => Py.fld fld191_4 xe xoff⟩ ?_
    refine JM.ld ao scal189 xe xpick xrow ?_
    refine JM.py ao ⟨fun _ => Py.move xe⟩ ?_
    first | refine JM.py ao ⟨fun _ => Py.nil xe⟩ ?_ | refine JM.py ao ⟨fun _ => Py.nilI xe⟩ ?_
    refine JM.py ao ⟨fun _ => Py.fld fld230_3 xe xoff⟩ ?_
    refine JM.ldA (vs := #[.int .i64 (c.lc : Int), .int .i64 (c.lp : Int), .int .i64 (c.pb : Int)]) ao agg196 xe xpick (by first | exact Nat.le_of_ble_eq_true rfl | assumption | (simp; omega) | fail) (by rfl) ?_
    refine JM.eff ao ?_
    refine JO.call (Evs.cons xe Evs.nil) (newState_con G c hc) xpkE ?_
    rintro ⟨sb, T, hT⟩
    show JO _ _ _ _ _ _ _ ((179, _) :: _) _ (_ :: _ :: _ :: _)
    dsimp only
    refine JO.nil ?_
    refine JX.mix (Kept.drop (Forced.step (by kernel_rfl)) (Kept.keep (fun _ hw => hw.cell xpick xrow) Kept.nil)) ?_
    first | refine JM.py ao ⟨fun _ => Py.nil xe⟩ ?_ | refine JM.py ao ⟨fun _ => Py.nilI xe⟩ ?_
    refine JM.py ao ⟨fun _ => Py.fld fld237_1 xe xoff⟩ ?_
    refine JM.eff ao ?_
    refine JO.store siz204 xe xe (by first | rfl | assumption) xpick xsize xnorm ?_
    refine JO.nil ?_
    refine JX.mix (Kept.drop (Forced.step (by kernel_rfl)) Kept.nil) ?_
    refine JM.nil (JX.blockN (JX.code (sR ?_)))
    refine oM ?_
    first | refine JO.py (Py.nil xe) ?_ | refine JO.py (Py.nilI xe) ?_
    refine JO.py (Py.fld fld191_4 xe xoff) ?_
    refine JO.py (Py.load scal189 xe xpick xrow) ?_
    refine oM ?_
    refine oM ?_
    refine JO.call (Evs.cons xe (Evs.cons xe (Evs.cons xe Evs.nil))) (hro d sb g0 s0 z0 b0) xpkE ?_
    rintro g
    show JO _ _ _ _ _ _ _ ((188, _) :: _) _ (_ :: _ :: _ :: _ :: _)
    refine oA ?_
    refine nC (JC.seq (sR ?_))
    refine oM ?_
    first | refine JO.py (Py.neqNil Tryz.underlying70 xe rfl) ?_ | refine JO.py (Py.neqHeld Tryz.underlying70 xe rfl) ?_
    refine nC ?_
    refine cF ?_
    refine JC.skip (JX.code (sR ?_))
    refine oM ?_
    refine oM ?_
    first | refine JO.py (Py.nil xe) ?_ | refine JO.py (Py.nilI xe) ?_
    refine JO.py (Py.fld fld191_4 xe xoff) ?_
    refine JO.py (Py.load scal189 xe xpick xrow) ?_
    refine JO.py (Py.mki mki189 xe) ?_
    first | refine JO.py (Py.nil xe) ?_ | refine JO.py (Py.nilI xe) ?_
    refine JO.py (Py.fld fld191_5 xe xoff) ?_
    refine JO.store siz113 xe xe (by first | rfl | assumption) xpick xsize xnorm ?_
    refine nC (sR ?_)
    refine oC ?_
    refine nC (JC.ret ?_)
    refine JX.shut (f := (fun _ : Unit => [DecC d dd sb g 0 p.length false, DictC dd db 65537 pre pre 0, DictD db all pre 65537, cel sb 270 (stC T M0 c LzS.start.regs), ChD T M0, DecS g (CkS.src G ⟨Z, br, lm, pb, after⟩ hz') M0 (symsEv c p LzS.start l)])) (()) xpicks ?_
    refine JX.as (A := Ex fun _ : Unit => [DecC d dd sb g 0 p.length false, DictC dd db 65537 pre pre 0, DictD db all pre 65537, cel sb 270 (stC T M0 c LzS.start.regs), ChD T M0, DecS g (CkS.src G ⟨Z, br, lm, pb, after⟩ hz') M0 (symsEv c p LzS.start l)]) (A' := DecSt (mkPk G ⟨Z, rr, dd, db, all⟩ hX c p after pre l x1 x2 x3 x4 rb h br lm pb d sb g T hT).1.K true pre) xpick (rfl) ?_
    refine JX.end1 (Or.inl rfl) (mkPk G ⟨Z, rr, dd, db, all⟩ hX c p after pre l x1 x2 x3 x4 rb h br lm pb d sb g T hT) Tryz.results67 ((xe).trans (by first | exact xval | (dsimp only; exact xval))) xpkE
end Go.Proofs.YtfpepghmbeoanaaGreatDoor
end

section
open Go Go.RowKit
namespace Go.Proofs.YtfpepghmbeoanaaGreatDoor
open Lz
/-- A reader that gives these bytes, 512 asked at a time. -/
structure RdSrc (G : Gst) (ea : Addr) (eT : TypeId) (ef : Nat × Nat) where
  σ : Type
  t : TypeId
  u : Value
  f : FuncId
  out : List Nat
  pos : σ → Nat
  ms : σ → Nat
  A : σ → Asn
  s0 : σ
  p0 : pos s0 = 0
  le : ∀ s, pos s ≤ out.length
  m : Mth Tryz.prog t u "Read" f u
  con : ∀ (s : σ) (pb : Nat), Con Tryz.prog G f #[u, .slice (some ⟨pb, 0, none⟩) 512 512] [A s, cel pb 5 (Array.replicate 512 (.int .u8 0)), EofA ea eT ef]
    (fun x : {x : σ × Nat × Bool // pos x.1 = pos s + x.2.1 ∧ x.2.1 ≤ 512 ∧ (x.2.2 = true → pos x.1 = out.length) ∧ (x.2.2 = false → ms x.1 < ms s)} => .tuple #[.int .i64 (x.1.2.1 : Int), if x.1.2.2 then eofV ea else .nilIface])
    (fun x => [A x.1.1, cel pb 5 (splice (Array.replicate 512 (.int .u8 0)) 0 (piece out (pos s) x.1.2.1)), EofA ea eT ef])
theorem str_lit {l : List Nat} {m : Array UInt8} {c : Bool} (h : (l.map UInt8.ofNat == m.toList) = c) : ((strB l).toList == (ByteArray.mk m).toList) = c := by
  rw [ByteArray.toList_eq, ByteArray.toList_eq]
  exact h
theorem zeros_piece {m : Nat} {out : List Nat} {p n : Nat} (hn : n ≤ m) (h : p + n ≤ out.length) : ((splice (Array.replicate m (Value.int .u8 0)) 0 (piece out p n)).extract 0 (0 + n)).toList = u8s ((out.drop p).take n) := by
  rw [← piece_eq h]
  unfold splice
  have hl := piece_len out p n
  simp [List.extract_eq_take_drop, hl]
theorem take_grow {out : List Nat} {p n : Nat} : out.take p ++ (out.drop p).take n = out.take (p + n) := by
  rw [List.take_add]
set_option maxRecDepth 100000 in
theorem decomp_con (G : Gst) (b : Nat) (xs : List Nat) (m : Nat) (hm : xs.length = m) (hx : ∀ x ∈ xs, x < 256) (f : FuncId)
    (h : (xs.map UInt8.ofNat = [3, 1, 1] ∧ f = 39) ∨ (xs.map UInt8.ofNat = [33] ∧ f = 46) ∨ (xs.map UInt8.ofNat = [3, 3, 1, 3] ∧ f = 40) ∨ (xs.map UInt8.ofNat = [3, 3, 2, 5] ∧ f = 42) ∨ (xs.map UInt8.ofNat = [3, 3, 5, 1] ∧ f = 43) ∨ (xs.map UInt8.ofNat = [3, 3, 8, 5] ∧ f = 44)) :
    Con Tryz.prog G 34 #[.slice (some ⟨b, 0, none⟩) m m] [cel b 5 (u8s xs).toArray] (fun _ : Unit => .func (.func f) #[] #[]) (fun _ => []) := by
  have hr : ∀ j v, (u8s xs)[j]? = some v → (u8s xs).toArray[0 + j]? = some v := fun j v h => by simpa using h
  refine Con.intro Tryz.func34 rfl (by kernel_rfl) Tryz.ntmps34 (Nat.le_of_ble_eq_true rfl) ?_
  intro F
  show JC _ _ _ _ _ _ [(0, _)] _ [_, _]
  refine sR ?_
  refine oC ?_
  refine nC (JC.seq (sR ?_))
  refine oM ?_
  refine JO.py (Py.str Tryz.underlying22 Tryz.underlying5 Tryz.underlying9 xe hm hx (Reads.cel xpick hr)) ?_
  refine nC (JC.block (sR ?_))
  refine JO.py (Py.streq (c := false) xe ev_const (str_lit (by rcases h with ⟨h, -⟩ | ⟨h, -⟩ | ⟨h, -⟩ | ⟨h, -⟩ | ⟨h, -⟩ | ⟨h, -⟩ <;> rw [h] <;> rfl))) ?_
  refine oA ?_
  refine nC ?_
  refine cF ?_
  refine sR ?_
  refine JO.py (Py.streq (c := false) xe ev_const (str_lit (by rcases h with ⟨h, -⟩ | ⟨h, -⟩ | ⟨h, -⟩ | ⟨h, -⟩ | ⟨h, -⟩ | ⟨h, -⟩ <;> rw [h] <;> rfl))) ?_
  refine oA ?_
  refine nC ?_
  refine cF ?_
  refine sR ?_
  rcases h with ⟨h, rfl⟩ | h
  · skip
    refine JO.py (Py.streq (c := true) xe ev_const (str_lit (by rw [h]; rfl))) ?_
    refine oA ?_
    refine nC ?_
    refine cT ?_
    refine sR ?_
    refine JO.py (Py.assign ev_func) ?_
    refine nC (JC.ret (JX.blockR (JX.ret ?_)))
    refine JX.end1 (Or.inl rfl) (()) Tryz.results34 ((xe).trans (by first | exact xval | (dsimp only; exact xval))) xpkE
  refine JO.py (Py.streq (c := false) xe ev_const (str_lit (by rcases h with ⟨h, -⟩ | ⟨h, -⟩ | ⟨h, -⟩ | ⟨h, -⟩ | ⟨h, -⟩ <;> rw [h] <;> rfl))) ?_
  refine oA ?_
  refine nC ?_
  refine cF ?_
  refine sR ?_
  rcases h with h | h
  · skip
    obtain ⟨h, rfl⟩ := h
    refine JO.py (Py.streq (c := false) xe ev_const (str_lit (by rw [h]; rfl))) ?_
    refine oA ?_
    refine nC ?_
    refine cF ?_
    refine sR ?_
    refine JO.py (Py.streq (c := false) xe ev_const (str_lit (by rw [h]; rfl))) ?_
    refine oA ?_
    refine nC ?_
    refine cF ?_
    refine sR ?_
    refine JO.py (Py.streq (c := false) xe ev_const (str_lit (by rw [h]; rfl))) ?_
    refine oA ?_
    refine nC ?_
    refine cF ?_
    refine sR ?_
    refine JO.py (Py.streq (c := false) xe ev_const (str_lit (by rw [h]; rfl))) ?_
    refine oA ?_
    refine nC ?_
    refine cF ?_
    refine sR ?_
    refine JO.py (Py.streq (c := false) xe ev_const (str_lit (by rw [h]; rfl))) ?_
    refine oA ?_
    refine nC ?_
    refine cF ?_
    refine sR ?_
    refine JO.py (Py.streq (c := false) xe ev_const (str_lit (by rw [h]; rfl))) ?_
    refine oA ?_
    refine nC ?_
    refine cF ?_
    refine sR ?_
    refine JO.py (Py.streq (c := true) xe ev_const (str_lit (by rw [h]; rfl))) ?_
    refine oA ?_
    refine nC ?_
    refine cT ?_
    refine sR ?_
    refine JO.py (Py.assign ev_func) ?_
    refine nC (JC.ret (JX.blockR (JX.ret ?_)))
    refine JX.end1 (Or.inl rfl) (()) Tryz.results34 ((xe).trans (by first | exact xval | (dsimp only; exact xval))) xpkE
  rcases h with ⟨h, rfl⟩ | h
  · skip
    refine JO.py (Py.streq (c := true) xe ev_const (str_lit (by rw [h]; rfl))) ?_
    refine oA ?_
    refine nC ?_
    refine cT ?_
    refine sR ?_
    refine JO.py (Py.assign ev_func) ?_
    refine nC (JC.ret (JX.blockR (JX.ret ?_)))
    refine JX.end1 (Or.inl rfl) (()) Tryz.results34 ((xe).trans (by first | exact xval | (dsimp only; exact xval))) xpkE
  refine JO.py (Py.streq (c := false) xe ev_const (str_lit (by rcases h with ⟨h, -⟩ | ⟨h, -⟩ | ⟨h, -⟩ <;> rw [h] <;> rfl))) ?_
  refine oA ?_
  refine nC ?_
  refine cF ?_
  refine sR ?_
  refine JO.py (Py.streq (c := false) xe ev_const (str_lit (by rcases h with ⟨h, -⟩ | ⟨h, -⟩ | ⟨h, -⟩ <;> rw [h] <;> rfl))) ?_
  refine oA ?_
  refine nC ?_
  refine cF ?_
  refine sR ?_
  rcases h with ⟨h, rfl⟩ | h
  · skip
    refine JO.py (Py.streq (c := true) xe ev_const (str_lit (by rw [h]; rfl))) ?_
    refine oA ?_
    refine nC ?_
    refine cT ?_
    refine sR ?_
    refine JO.py (Py.assign ev_func) ?_
    refine nC (JC.ret (JX.blockR (JX.ret ?_)))
    refine JX.end1 (Or.inl rfl) (()) Tryz.results34 ((xe).trans (by first | exact xval | (dsimp only; exact xval))) xpkE
  refine JO.py (Py.streq (c := false) xe ev_const (str_lit (by rcases h with ⟨h, -⟩ | ⟨h, -⟩ <;> rw [h] <;> rfl))) ?_
  refine oA ?_
  refine nC ?_
  refine cF ?_
  refine sR ?_
  rcases h with ⟨h, rfl⟩ | ⟨h, rfl⟩
  · skip
    refine JO.py (Py.streq (c := true) xe ev_const (str_lit (by rw [h]; rfl))) ?_
    refine oA ?_
    refine nC ?_
    refine cT ?_
    refine sR ?_
    refine JO.py (Py.assign ev_func) ?_
    refine nC (JC.ret (JX.blockR (JX.ret ?_)))
    refine JX.end1 (Or.inl rfl) (()) Tryz.results34 ((xe).trans (by first | exact xval | (dsimp only; exact xval))) xpkE
  · skip
    refine JO.py (Py.streq (c := false) xe ev_const (str_lit (by rw [h]; rfl))) ?_
    refine oA ?_
    refine nC ?_
    refine cF ?_
    refine sR ?_
    refine JO.py (Py.streq (c := true) xe ev_const (str_lit (by rw [h]; rfl))) ?_
    refine oA ?_
    refine nC ?_
    refine cT ?_
    refine sR ?_
    refine JO.py (Py.assign ev_func) ?_
    refine nC (JC.ret (JX.blockR (JX.ret ?_)))
    refine JX.end1 (Or.inl rfl) (()) Tryz.results34 ((xe).trans (by first | exact xval | (dsimp only; exact xval))) xpkE
set_option maxRecDepth 100000 in
set_option maxHeartbeats 4000000 in
theorem zz_con (G : Gst) (ea : Addr) (eT : TypeId) (ef : Nat × Nat) (ib : Nat) (id : List Nat) (im : Nat) (him : id.length = im) (hid : ∀ x ∈ id, x < 256) (f : FuncId)
    (h : (id.map UInt8.ofNat = [3, 1, 1] ∧ f = 39) ∨ (id.map UInt8.ofNat = [33] ∧ f = 46) ∨ (id.map UInt8.ofNat = [3, 3, 1, 3] ∧ f = 40) ∨ (id.map UInt8.ofNat = [3, 3, 2, 5] ∧ f = 42) ∨ (id.map UInt8.ofNat = [3, 3, 5, 1] ∧ f = 43) ∨ (id.map UInt8.ofNat = [3, 3, 8, 5] ∧ f = 44))
    (pv sv : Value) (hsv : sv.oneCell' = true) (z : Nat) (sl : Nat) (st : List Nat) (A : Asn) {ι : Type} (S : ι → RdSrc G ea eT ef) (out : List Nat) (hout : ∀ i, (S i).out = out) (holen : out.length ≤ 60000)
    (hnew : ∀ rb rc r rcur, rcur[0]? = some (.iface 88 (.agg #[.pointer (some ⟨r, 0, none⟩)])) → Con Tryz.prog G f #[pv, .int .u64 (z : Int), .slice (some ⟨rb, 0, none⟩) 1 rc] [A, cel rb 90 rcur, BrA r sv 0 (-1), Row 5 sv (u8s st), EofA ea eT ef]
      (fun i : ι => .tuple #[.iface (S i).t (S i).u, .nilIface]) (fun i => [(S i).A (S i).s0, EofA ea eT ef])) :
    Con Tryz.prog G 29 #[.slice (some ⟨ib, 0, none⟩) im im, pv, .int .u64 (z : Int), .slice (some ⟨sl, 0, none⟩) 1 1, .int .i64 65536] [cel ib 5 (u8s id).toArray, A, cel sl 22 #[sv], Row 5 sv (u8s st), EofA ea eT ef]
      (fun v : Value => .tuple #[v, .nilIface]) (fun v => [Row 5 v (u8s out), EofA ea eT ef]) := by
  refine Con.intro Tryz.func29 rfl (by kernel_rfl) Tryz.ntmps29 (Nat.le_of_ble_eq_true rfl) ?_
  intro F
  show JC _ _ _ _ _ _ [(0, _), (1, _), (2, _), (3, _), (4, _)] _ [_, _, _, _, _, _]
  refine sR ?_
  refine oC ?_
  refine oC ?_
  refine nC (sR ?_)
  refine oM ?_
  refine JO.call (Evs.cons xe Evs.nil) (decomp_con G ib id im him hid f h) xpkE ?_
  rintro _
  show JO _ _ _ _ _ _ _ ((23, _) :: _) _ (_ :: _)
  refine oA ?_
  refine nC (JC.seq (sR ?_))
  refine oM ?_
  refine JO.py (Py.eqlFN Tryz.underlying82 xe) ?_
  refine nC ?_
  refine cF ?_
  refine JC.skip (JX.code (sR ?_))
  refine oC ?_
  refine nC (JC.seq (sR ?_))
  refine oM ?_
  refine JO.py (Py.lenS Tryz.underlying68 xe) ?_
  refine JO.py (Py.move ev_const) ?_
  refine nC (JC.block ?_)
  refine JC.unroll 1 ?_
  refine sR ?_
  first | refine oD (Py.lss xe xe) ?_ | refine oU (Py.lss xe xe) ?_ | refine JO.py (Py.lss xe xe) ?_
  refine nC (JC.seq ?_)
  refine cT ?_
  refine JC.skip (JX.code (JC.seq (JC.block (sR ?_))))
  refine JO.py (Py.idxS Tryz.underlying68 siz22 xe xe (by omega) xidx xmult) ?_
  refine JO.py (Py.load scal22 xe xpick xrow) ?_
  refine oA ?_
  refine nC (JC.region ?_)
  refine oM ?_
  refine oM ?_
  refine JO.call (Evs.cons xe Evs.nil) (newRd_con G sv hsv) xpkE ?_
  rintro r
  show JO _ _ _ _ _ _ _ ((35, _) :: _) _ (_ :: _ :: _)
  refine JO.py (Py.build bld88 (Pts.cons xe Pts.nil) xfl) ?_
  refine JO.py (Py.mki mki88 xe) ?_
  refine JO.bslice Tryz.underlying84 elm90 (Evs.cons xe Evs.nil) rfl rfl (by simp [Value.oneCell']) (by decide) ?_; intro b38
  refine JO.free (A := Row 90 (.slice none 0 0) []) (.inl ⟨rfl, rfl⟩) ?_
  refine JO.app Tryz.underlying84 elm90 xe xe xpick (Src.lit rfl xpick (by rfl) (by simp [Value.oneCell'])) (by decide) (by decide) ?_
  intro v39 ho39
  rw [List.nil_append]
  refine oA ?_
  refine JO.nil (JX.blockN (JX.code (JC.region ?_)))
  refine JO.py (Py.add xe ev_const wI) ?_
  refine oM ?_
  refine JO.nil (JX.again (sR ?_))
  first | refine oD (Py.lss xe xe) ?_ | refine oU (Py.lss xe xe) ?_ | refine JO.py (Py.lss xe xe) ?_
  refine nC (JC.seq ?_)
  refine cF ?_
  refine JC.exit (JX.exit (JX.exit (JX.blockE (JX.code (sR ?_)))))
  refine oM ?_
  refine oM ?_
  refine oM ?_
  refine oM ?_
  refine JO.unrow (e := 90) (v := v39) (xs := [.iface 88 (.agg #[.pointer (some ⟨r, 0, none⟩)])]) xpick (by simp) ?_
  rintro rb rc rcur rfl hrr
  rw [List.length_singleton]
  have hr0 : rcur[0]? = some (.iface 88 (.agg #[.pointer (some ⟨r, 0, none⟩)])) := hrr.get rfl
  refine JO.callV xe (Evs.cons xe (Evs.cons xe (Evs.cons xe Evs.nil))) (hnew rb rc r rcur hr0) xpkE ?_
  rintro i
  show JO _ _ _ _ _ _ _ ((46, _) :: _) _ (_ :: _ :: _ :: _)
  have hRo := hout i
  generalize S i = R at hRo ⊢
  subst hRo
  refine oM ?_
  refine JO.py (Py.extrI xe xix) ?_
  refine JO.py (Py.extrI xe xix) ?_
  refine oA ?_
  refine oA ?_
  refine nC (JC.seq (sR ?_))
  refine oM ?_
  first | refine JO.py (Py.neqNil Tryz.underlying70 xe rfl) ?_ | refine JO.py (Py.neqHeld Tryz.underlying70 xe rfl) ?_
  refine nC ?_
  refine cF ?_
  refine JC.skip (JX.code (sR ?_))
  refine oC ?_
  refine nC (JC.seq (JC.block ?_))
  refine JC.free (A := Row 5 (.slice none 0 0) (u8s [])) (.inl ⟨rfl, rfl⟩) ?_
  refine JC.loop (ι := R.σ × Value) (fun _ => True) (fun x => [(4, .int .i64 65536), (16, .iface R.t R.u), (18, x.2)]) (fun x => [R.A x.1, Row 5 x.2 (u8s (R.out.take (R.pos x.1))), EofA ea eT ef, F]) (fun x => R.ms x.1) (R.s0, .slice none 0 0) trivial xag (by dsimp only; rw [R.p0, List.take_zero]; exact xpkE) ?_
  rintro ⟨s, v⟩ base' -
  dsimp only
  have hle := R.le s
  obtain ⟨p, hp⟩ : ∃ p, R.pos s = p := ⟨_, rfl⟩
  have hcon := R.con s
  rw [hp] at hle hcon ⊢
  refine JC.rowV (e := 5) (v := v) (xs := u8s (R.out.take p)) xpick ?_
  rintro a c rfl hc
  have hl2 : (u8s (R.out.take p)).length = p := by rw [u8s_len, List.length_take]; omega
  rw [hl2]
  refine JC.seq (sR ?_)
  refine oM ?_
  refine JO.py (Py.lenS Tryz.underlying22 xe) ?_
  refine oM ?_
  first | refine oD (Py.lss xe xe) ?_ | refine oU (Py.lss xe xe) ?_ | refine JO.py (Py.lss xe xe) ?_
  refine nC ?_
  refine cT ?_
  refine JC.skip (JX.code (JC.block (sR ?_)))
  refine oM ?_
  refine oM ?_
  refine JO.py (Py.lenS Tryz.underlying22 xe) ?_
  refine JO.py (Py.sub xe xe wI) ?_
  first | refine JO.py (Py.minT ev_const xe (by omega)) ?_ | refine JO.py (Py.minF ev_const xe (by omega)) ?_ | refine JO.py (Py.min2 ev_const xe) ?_
  refine JO.mkslice (m := 512) (c := 512) Tryz.underlying22 elm5 xe xe (by omega) (by omega) (by omega) (by omega) (by omega) ?_
  intro b61
  refine oA ?_
  refine nC (sR ?_)
  refine oM ?_
  refine oM ?_
  refine JO.invoke xe (Evs.cons xe Evs.nil) (R.m) (hcon b61) xpkE ?_
  rintro ⟨⟨s', n, e⟩, h1, h2, h3, h4⟩
  show JO _ _ _ _ _ _ _ ((65, _) :: _) _ (_ :: _ :: _ :: _ :: _)
  dsimp only at h1 h2 h3 h4 ⊢
  have hle' := R.le s'
  have hsz : 0 + n ≤ (splice (Array.replicate 512 (Value.int .u8 0)) 0 (piece R.out p n)).size := by rw [splice_size (by rw [piece_len]; simp; omega)]; simp; omega
  cases e
  · skip
    have h5 := h4 rfl
    rw [if_neg Bool.false_ne_true]
    refine oM ?_
    refine JO.py (Py.extrI xe xix) ?_
    refine JO.py (Py.extrI xe xix) ?_
    refine oA ?_
    refine oA ?_
    refine nC (sR ?_)
    refine oM ?_
    refine oM ?_
    refine oM ?_
    refine JO.py (Py.slc (l := 0) (h := n) (p := 0) (q := n) (c := 512) Tryz.underlying22 siz5 xe Bd.none (Bd.some xe (by omega)) (by omega) (by omega) (by omega) (by omega) (by omega) (by omega)) ?_
    refine JO.app Tryz.underlying22 elm5 xe xe xpick (Src.cel rfl xpick hsz (zeros_piece h2 (by omega)) u8s_one) (by rw [hl2]; omega) (by decide) ?_
    intro v72 ho72
    have htk : R.out.take (p + n) = R.out.take (R.pos s') := by rw [h1]
    rw [← u8s_append, take_grow, htk]
    refine oA ?_
    refine nC (sR ?_)
    refine oM ?_
    first | refine JO.py (Py.neqNil Tryz.underlying70 xe rfl) ?_ | refine JO.py (Py.neqHeld Tryz.underlying70 xe rfl) ?_
    refine nC ?_
    refine cF ?_
    refine JC.skip (JX.blockN ?_)
    refine JX.loop (s', v72) trivial h5 xag xpkE
  · skip
    have h5 := h3 rfl
    rw [if_pos rfl]
    refine oM ?_
    refine JO.py (Py.extrI xe xix) ?_
    refine JO.py (Py.extrI xe xix) ?_
    refine oA ?_
    refine oA ?_
    refine nC (sR ?_)
    refine oM ?_
    refine oM ?_
    refine oM ?_
    refine JO.py (Py.slc (l := 0) (h := n) (p := 0) (q := n) (c := 512) Tryz.underlying22 siz5 xe Bd.none (Bd.some xe (by omega)) (by omega) (by omega) (by omega) (by omega) (by omega) (by omega)) ?_
    refine JO.app Tryz.underlying22 elm5 xe xe xpick (Src.cel rfl xpick hsz (zeros_piece h2 (by omega)) u8s_one) (by rw [hl2]; omega) (by decide) ?_
    intro v72 ho72
    have htk : R.out.take (p + n) = R.out := by rw [← h1, h5, List.take_length]
    rw [← u8s_append, take_grow, htk]
    refine oA ?_
    refine nC (sR ?_)
    refine oM ?_
    first | refine JO.py (Py.neqNil Tryz.underlying70 xe rfl) ?_ | refine JO.py (Py.neqHeld Tryz.underlying70 xe rfl) ?_
    refine nC ?_
    refine cT ?_
    refine JC.seq (sR ?_)
    refine oM ?_
    refine JO.py (Py.load scal70 ev_glob xpick xrow) ?_
    refine JO.call (Evs.cons xe (Evs.cons xe Evs.nil)) (is_con G ea) xpkE ?_
    rintro _
    show JO _ _ _ _ _ _ _ ((77, _) :: _) _ (_ :: _)
    refine nC ?_
    refine cT ?_
    refine sR ?_
    refine oM ?_
    refine oA ?_
    refine oC ?_
    refine nC (JC.ret (JX.ret (JX.blockR (JX.ret (JX.blockR (JX.ret ?_))))))
    refine JX.end2 (Or.inl rfl) (v72) Tryz.results29 (tup2 ((xe).trans (by first | exact xval | (dsimp only; exact xval))) ((xe).trans (by first | exact xval | (dsimp only; exact xval)))) xpkE
end Go.Proofs.YtfpepghmbeoanaaGreatDoor
end
