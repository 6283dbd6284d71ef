/-
The decoder: a piece is decoded whole.
The decoder: its bytes are read.
The decoder is made.
The decoder's chances are made.
The decoder's tables are made.
The decoder's tables of distances are made.
The decoder's state is made.
-/
import Derived.Test.YtfpepghmbeoanaaGreatDoorQ07
import Derived.Test.YtfpepghmbeoanaaGreatDoorQ03
set_option linter.unusedSimpArgs false
set_option linter.unusedVariables false
section
open Go Go.RowKit
namespace Go.Proofs.YtfpepghmbeoanaaGreatDoor
open Lz
/-- io.EOF. -/
abbrev eofV (ea : Addr) : Value := .iface 215 (.pointer (some ea))
abbrev EofA (ea : Addr) (eT : TypeId) (ef : Nat × Nat) : Asn := blk 1 (.cells #[eofV ea] eT ef)
/-- How many bytes a symbol tells. -/
def Sym.w : Sym → Nat
  | .lit => 1
  | .rep _ n => n
  | .mat _ n => n
theorem next_i (S : LzS) (y : Sym) : (S.next y).i = S.i + y.w := by cases y <;> rfl
theorem valid_w {b : List Nat} {S : LzS} {y : Sym} (h : Valid b S y) : 1 ≤ y.w ∧ y.w ≤ 273 := by
  cases y with
  | lit => exact ⟨Nat.le_refl _, by decide⟩
  | rep k n => exact ⟨by have := h.2.1; show 1 ≤ n; omega, h.2.2.le⟩
  | mat d n => exact ⟨by have := h.1; show 1 ≤ n; omega, h.2.le⟩
def MatOk (y : Sym) : Prop := ∀ d n, y = .mat d n → d < 1048576
theorem mat_ok {bs : List Nat} {S : LzS} {y : Sym} (hv : Valid bs S y) (hb : bs.length ≤ 100000) : MatOk y := by
  intro d n e
  subst e
  have h1 := hv.2.dist.resolve_left (by have := hv.1; omega)
  have h2 := hv.2.fit
  omega
theorem run_len {bs : List Nat} : ∀ (l : List Sym) (S : LzS), ValidAll bs S l → S.i + l.length ≤ (S.run l).i
  | [], S, _ => Nat.le_refl _
  | y :: l, S, h => by
    have h1 := run_len l (S.next y) h.2
    have h2 := valid_w h.1
    have h3 := next_i S y
    simp only [LzS.run, List.length_cons]
    omega
set_option maxRecDepth 100000 in
set_option maxHeartbeats 2000000 in
theorem decompress_con (G : Gst) (R : ByteSrc G) (T : Tab) (c : Cfg) (hc : c.Ok) (hR : RowsD T c) (M : PM) (hM : PMok M) (d dd db sb g n re pre : Nat) (all bs : List Nat) (hA : At2 all bs pre) (l : List Sym) (S : LzS) (hS : S.Ok bs.length) (hv : ValidAll bs S l) (hrun : (S.run l).i = bs.length) (hlt : S.i < bs.length)
    (hn : pre + bs.length + 300 ≤ n ∧ n ≤ 100000) (hre : re ≤ pre + S.i) (ea : Addr) (eT : TypeId) (ef : Nat × Nat) :
    Con Tryz.prog G 151 #[.pointer (some ⟨d, 0, none⟩)] [DecC d dd sb g 0 bs.length false, DictC dd db n (pre + S.i) re S.i, DictD db all (pre + S.i) n, cel sb 270 (stC T M c S.regs), ChD T M, DecS g R M (symsEv c bs S l), EofA ea eT ef] (fun _ : PM × Regs => eofV ea)
      (fun x => [DecC d dd sb g 0 bs.length true, DictC dd db n (pre + bs.length) re bs.length, DictD db all (pre + bs.length) n, cel sb 270 (stC T x.1 c x.2), ChD T x.1, DecS g R x.1 [], EofA ea eT ef]) := by
  have hb := hS.i
  refine Con.intro Tryz.func151 rfl (by kernel_rfl) Tryz.ntmps151 (Nat.le_of_ble_eq_true rfl) ?_
  intro F
  show JC _ _ _ _ _ _ [(0, _)] _ [_, _, _, _, _, _, _, _]
  refine sR ?_
  refine oC ?_
  refine nC (JC.seq (sR ?_))
  refine oM ?_
  refine JO.py (Py.nil xe) ?_
  refine JO.py (Py.fld fld237_5 xe xoff) ?_
  refine JO.py (Py.load scal4 xe xpick xrow) ?_
  refine nC ?_
  refine cF ?_
  refine JC.skip (JX.code (JC.seq (JC.block ?_)))
  refine JC.loop (ι := List Sym × LzS × PM) (fun x => ValidAll bs x.2.1 x.1 ∧ x.2.1.Ok bs.length ∧ PMok x.2.2 ∧ (x.2.1.run x.1).i = bs.length ∧ x.2.1.i < bs.length ∧ re ≤ pre + x.2.1.i) (fun x => [(0, .pointer (some ⟨d, 0, none⟩))]) (fun x => [DecC d dd sb g 0 bs.length false, DictC dd db n (pre + x.2.1.i) re x.2.1.i, DictD db all (pre + x.2.1.i) n, cel sb 270 (stC T x.2.2 c x.2.1.regs), ChD T x.2.2, DecS g R x.2.2 (symsEv c bs x.2.1 x.1), EofA ea eT ef, F]) (fun x => bs.length - x.2.1.i) (l, S, M) ⟨hv, hS, hM, hrun, hlt, hre⟩ xag xpkE ?_
  rintro ⟨l1, S1, M1⟩ base' ⟨hv1, hS1, hM1, hr1, hl1, hre1⟩
  dsimp only at hv1 hS1 hM1 hr1 hl1 hre1 ⊢
  rcases l1 with _ | ⟨y, l1⟩
  · exfalso
    simp only [LzS.run] at hr1
    omega
  obtain ⟨hvy, hv2⟩ := hv1
  have hS2 := LzS.next_ok hS1 y hvy
  have hyn := valid_w hvy
  have hni := next_i S1 y
  have hle := hS2.i
  refine JC.as (A := DecS g R M1 (symsEv c bs S1 (y :: l1))) (A' := DecS g R M1 (symEv c bs S1 y ++ symsEv c bs (S1.next y) l1)) xpick (rfl) ?_
  refine JC.seq (sR ?_)
  refine oM ?_
  refine JO.py (Py.nil xe) ?_
  refine JO.py (Py.fld fld237_0 xe xoff) ?_
  refine JO.py (Py.load scal187 xe xpick xrow) ?_
  refine JO.call (Evs.cons xe Evs.nil) (availD_con G dd db n (pre + S1.i) re S1.i hn.2 (by omega)) xpkE ?_
  rintro _
  show JO _ _ _ _ _ _ _ ((14, _) :: _) _ (_ :: _ :: _)
  first | refine oD (Py.geq xe ev_const) ?_ | refine oU (Py.geq xe ev_const) ?_ | refine JO.py (Py.geq xe ev_const) ?_
  refine nC ?_
  refine cT ?_
  refine JC.skip (JX.code (JC.block (sR ?_)))
  refine oM ?_
  refine JO.call (Evs.cons xe Evs.nil) (readOp_con G R T c hc hR M1 hM1 d dd db sb g 0 bs.length n re pre all bs hA (symsEv c bs (S1.next y) l1) S1 hS1 y hvy (mat_ok hvy (by omega)) hn) xpkE ?_
  rintro _
  show JO _ _ _ _ _ _ _ ((18, _) :: _) _ (_ :: _ :: _ :: _ :: _ :: _ :: _ :: _)
  have hM2 := evsM_ok hM1 (symEv c bs S1 y)
  refine oM ?_
  refine JO.py (Py.extrI xe xix) ?_
  refine JO.py (Py.extrI xe xix) ?_
  refine oA ?_
  refine oA ?_
  refine nC (JC.seq (sR ?_))
  refine oM ?_
  refine nC (JC.block (sR ?_))
  first | refine JO.py (Py.eqlNil Tryz.underlying70 xe rfl) ?_ | refine JO.py (Py.eqlHeld Tryz.underlying70 xe rfl) ?_
  refine oA ?_
  refine nC ?_
  refine cT ?_
  refine JC.skip (JX.blockN (JX.code (JC.seq (sR ?_))))
  refine oM ?_
  refine oM ?_
  refine JO.call (Evs.cons xe (Evs.cons xe Evs.nil)) (apply_con G d dd db sb g 0 bs.length n re pre all bs hA S1 hS1 y hvy hn hre1) xpkE ?_
  rintro _
  show JO _ _ _ _ _ _ _ ((63, _) :: _) _ (_ :: _ :: _ :: _ :: _)
  refine oA ?_
  refine nC (sR ?_)
  refine oM ?_
  first | refine JO.py (Py.neqNil Tryz.underlying70 xe rfl) ?_ | refine JO.py (Py.neqHeld Tryz.underlying70 xe rfl) ?_
  refine nC ?_
  refine cF ?_
  refine JC.skip (JX.code (JC.seq ?_))
  refine JC.regionM [(0, true), (1, true), (2, true), (3, true), (4, true), (5, true), (6, true), (8, true), (9, true), (10, true), (11, true), (7, false), (12, true), (13, true)] mixed (by kernel_rfl) ?_
  refine JM.py ao ⟨fun _ => Py.move xe⟩ ?_
  refine JM.py ao ⟨fun _ => Py.nil xe⟩ ?_
  refine JM.py ao ⟨fun _ => Py.fld fld237_4 xe xoff⟩ ?_
  refine JM.ld ao scal2 xe xpick xrow ?_
  first | refine JM.py ao ⟨fun _ => Py.dec (Py.geq xe ev_const) (by omega)⟩ ?_ | refine JM.py ao ⟨fun _ => Py.undec (Py.geq xe ev_const) (by omega)⟩ ?_ | refine JM.py ao ⟨fun _ => Py.geq xe ev_const⟩ ?_
  refine JM.py ao ⟨fun _ => Py.move xe⟩ ?_
  first | refine JM.pyG ao rfl (Lk.ev (v := .bool true) xlk rfl) ⟨fun _ => Py.move xe⟩ ?_ | refine JM.skip ao rfl (Lk.ev (v := .bool false) xlk rfl) ?_
  first | refine JM.pyG ao rfl (Lk.ev (v := .bool true) xlk rfl) ⟨fun _ => Py.move xe⟩ ?_ | refine JM.skip ao rfl (Lk.ev (v := .bool false) xlk rfl) ?_
  first | refine JM.pyG ao rfl (Lk.ev (v := .bool true) xlk rfl) ⟨fun _ => Py.nil xe⟩ ?_ | refine JM.skip ao rfl (Lk.ev (v := .bool false) xlk rfl) ?_
  first | refine JM.pyG ao rfl (Lk.ev (v := .bool true) xlk rfl) ⟨fun _ => Py.fld fld237_4 xe xoff⟩ ?_ | refine JM.skip ao rfl (Lk.ev (v := .bool false) xlk rfl) ?_
  first | refine JM.ldG ao rfl (Lk.ev (v := .bool true) xlk rfl) scal2 xe xpick xrow ?_ | refine JM.skip ao rfl (Lk.ev (v := .bool false) xlk rfl) ?_
  refine JM.eff ao ?_
  refine gT ?_
  refine JO.call (Evs.cons xe Evs.nil) (decompressed_con G d dd db sb g 0 bs.length n (pre + (S1.next y).i) re (S1.next y).i false ⟨Nat.zero_le _, by omega⟩) xpkE ?_
  rintro _
  show JO _ _ _ _ _ _ _ ((74, _) :: _) _ (_ :: _ :: _ :: _)
  refine JO.nil ?_
  refine JX.mix (Kept.keep (fun _ hw => hw.cell xpick xrow) (Kept.drop (Forced.trans (q := 4) (Forced.step (by kernel_rfl)) (Forced.trans (q := 5) (Forced.step (by kernel_rfl)) (Forced.step (by kernel_rfl)))) Kept.nil)) ?_
  first | refine JM.pyG ao rfl (Lk.ev (v := .bool true) xlk rfl) ⟨fun _ => Py.dec (Py.geq xe xe) (by omega)⟩ ?_ | refine JM.pyG ao rfl (Lk.ev (v := .bool true) xlk rfl) ⟨fun _ => Py.undec (Py.geq xe xe) (by omega)⟩ ?_ | refine JM.pyG ao rfl (Lk.ev (v := .bool true) xlk rfl) ⟨fun _ => Py.geq xe xe⟩ ?_ | refine JM.skip ao rfl (Lk.ev (v := .bool false) xlk rfl) ?_
  first | refine JM.py ao ⟨fun _ => Py.pickT xe xe⟩ ?_ | refine JM.py ao ⟨fun _ => Py.pickF xe ev_const⟩ ?_
  refine JM.nil (JX.code ?_)
  by_cases hend : (S1.next y).i < bs.length
  · skip
    refine cF ?_
    refine JC.skip (JX.blockN ?_)
    refine JX.loop (l1, S1.next y, evsM M1 (symEv c bs S1 y)) ⟨hv2, hS2, hM2, hr1, hend, by dsimp only; omega⟩ (by dsimp only; omega) xag xpkE
  · skip
    have hz : (S1.next y).i = bs.length := by omega
    have hl0 : l1 = [] := by
      have h1 := run_len l1 (S1.next y) hv2
      simp only [LzS.run] at hr1
      have h2 : l1.length = 0 := by omega
      exact List.length_eq_zero_iff.1 h2
    subst hl0
    refine cT ?_
    refine sR ?_
    refine oM ?_
    refine JO.py (Py.nil xe) ?_
    refine JO.py (Py.fld fld237_5 xe xoff) ?_
    refine JO.store siz4 xe ev_const (by first | rfl | assumption) xpick xsize xnorm ?_
    refine nC (JC.seq (JC.seq ?_))
    refine JC.regionM [(0, true), (2, true), (3, true), (4, true), (5, true), (1, false), (6, true)] mixed (by kernel_rfl) ?_
    refine JM.py ao ⟨fun _ => Py.move xe⟩ ?_
    refine JM.py ao ⟨fun _ => Py.move xe⟩ ?_
    refine JM.py ao ⟨fun _ => Py.nil xe⟩ ?_
    refine JM.py ao ⟨fun _ => Py.fld fld237_4 xe xoff⟩ ?_
    refine JM.ld ao scal2 xe xpick xrow ?_
    refine JM.eff ao ?_
    refine JO.call (Evs.cons xe Evs.nil) (decompressed_con G d dd db sb g 0 bs.length n (pre + (S1.next y).i) re (S1.next y).i true ⟨Nat.zero_le _, by omega⟩) xpkE ?_
    rintro _
    show JO _ _ _ _ _ _ _ ((85, _) :: _) _ (_ :: _ :: _ :: _)
    refine JO.nil ?_
    refine JX.mix (Kept.keep (fun _ hw => hw.cell xpick xrow) Kept.nil) ?_
    first | refine JM.py ao ⟨fun _ => Py.dec (Py.gtr xe xe) (by omega)⟩ ?_ | refine JM.py ao ⟨fun _ => Py.undec (Py.gtr xe xe) (by omega)⟩ ?_ | refine JM.py ao ⟨fun _ => Py.gtr xe xe⟩ ?_
    refine JM.nil (JX.code ?_)
    refine cF ?_
    refine JC.skip (JX.code (JC.seq (sR ?_)))
    refine oM ?_
    refine JO.py (Py.nil xe) ?_
    refine JO.py (Py.fld fld237_2 xe xoff) ?_
    refine JO.py (Py.load scal235 xe xpick xrow) ?_
    refine JO.as (A := DecS g R (evsM M1 (symEv c bs S1 y)) (symsEv c bs (S1.next y) [])) (A' := DecS g R (evsM M1 (symEv c bs S1 y)) []) xpick (rfl) ?_
    refine JO.call (Evs.cons xe Evs.nil) (atEnd_con G g R (evsM M1 (symEv c bs S1 y))) xpkE ?_
    rintro _
    show JO _ _ _ _ _ _ _ ((96, _) :: _) _ (_ :: _ :: _)
    refine JO.py (Py.not xe (by first | with_reducible exact not_t | with_reducible exact not_f | exact rfl)) ?_
    refine nC ?_
    refine cF ?_
    refine JC.skip (JX.code (sR ?_))
    refine JO.py (Py.load scal70 ev_glob xpick xrow) ?_
    refine oA ?_
    refine nC (JC.ret (JX.blockR (JX.ret (JX.blockR (JX.ret ?_)))))
    rw [hz]
    refine JX.end1 (Or.inl rfl) ((evsM M1 (symEv c bs S1 y), (S1.next y).regs)) Tryz.results151 ((xe).trans (by first | exact xval | (dsimp only; exact xval))) xpkE
end Go.Proofs.YtfpepghmbeoanaaGreatDoor
end

section
open Go Go.RowKit
namespace Go.Proofs.YtfpepghmbeoanaaGreatDoor
open Lz
theorem decEos_con (G : Gst) (d dd sb g start size : Nat) (ea : Addr) (eT : TypeId) (ef : Nat × Nat) : Con Tryz.prog G 151 #[.pointer (some ⟨d, 0, none⟩)] [DecC d dd sb g start size true, EofA ea eT ef] (fun _ : Unit => eofV ea) (fun _ => [DecC d dd sb g start size true, EofA ea eT ef]) := by
  refine Con.intro Tryz.func151 rfl (by kernel_rfl) Tryz.ntmps151 (Nat.le_of_ble_eq_true rfl) ?_
  intro F
  show JC _ _ _ _ _ _ [(0, _)] _ [_, _, _]
  refine sR ?_
  refine oC ?_
  refine nC (JC.seq (sR ?_))
  refine oM ?_
  refine JO.py (Py.nil xe) ?_
  refine JO.py (Py.fld fld237_5 xe xoff) ?_
  refine JO.py (Py.load scal4 xe xpick xrow) ?_
  refine nC ?_
  refine cT ?_
  refine sR ?_
  refine JO.py (Py.load scal70 ev_glob xpick xrow) ?_
  refine oA ?_
  refine nC (JC.ret (JX.ret ?_))
  refine JX.end1 (Or.inl rfl) (()) Tryz.results151 ((xe).trans (by first | exact xval | (dsimp only; exact xval))) xpkE
/-- All that a decoder stands on. -/
structure DecP (G : Gst) where
  R : ByteSrc G
  T : Tab
  c : Cfg
  d : Nat
  dd : Nat
  db : Nat
  sb : Nat
  g : Nat
  n : Nat
  pre : Nat
  all : List Nat
  bs : List Nat
  l : List Sym
structure DecP.Ok {G : Gst} (X : DecP G) : Prop where
  c : X.c.Ok
  R : RowsD X.T X.c
  A : At2 X.all X.bs X.pre
  v : ValidAll X.bs LzS.start X.l
  r : (LzS.start.run X.l).i = X.bs.length
  pos : 0 < X.bs.length
  n : X.pre + X.bs.length + 300 ≤ X.n ∧ X.n ≤ 100000
/-- Nothing is decoded yet. -/
def FreshA {G : Gst} (X : DecP G) : Asn := Ex fun _ : Unit => [DecC X.d X.dd X.sb X.g 0 X.bs.length false, DictC X.dd X.db X.n X.pre X.pre 0, DictD X.db X.all X.pre X.n, cel X.sb 270 (stC X.T M0 X.c LzS.start.regs), ChD X.T M0, DecS X.g X.R M0 (symsEv X.c X.bs LzS.start X.l)]
/-- All is decoded, and re bytes are read. -/
def DoneA {G : Gst} (X : DecP G) (re : Nat) : Asn := Ex fun x : PM × Regs => [DecC X.d X.dd X.sb X.g 0 X.bs.length true, DictC X.dd X.db X.n (X.pre + X.bs.length) re X.bs.length, DictD X.db X.all (X.pre + X.bs.length) X.n, cel X.sb 270 (stC X.T x.1 X.c x.2), ChD X.T x.1, DecS X.g X.R x.1 []]
def DecSt {G : Gst} (X : DecP G) (fresh : Bool) (re : Nat) : Asn := if fresh then FreshA X else DoneA X re
theorem M0_PMok : PMok (fun _ _ => 1024) := fun _ _ => ⟨Nat.le_of_ble_eq_true rfl, Nat.le_of_ble_eq_true rfl⟩
theorem decRest_con {G : Gst} (X : DecP G) (hX : X.Ok) (ea : Addr) (eT : TypeId) (ef : Nat × Nat) : Con Tryz.prog G 151 #[.pointer (some ⟨X.d, 0, none⟩)] [FreshA X, EofA ea eT ef] (fun _ : Unit => eofV ea) (fun _ => [DoneA X X.pre, EofA ea eT ef]) := by
  have h := decompress_con G X.R X.T X.c hX.c hX.R M0 M0_PMok X.d X.dd X.db X.sb X.g X.n X.pre X.pre X.all X.bs hX.A X.l LzS.start (LzS.start_ok _) hX.v hX.r hX.pos hX.n (Nat.le_refl _) ea eT ef
  refine Con.conseq h fun F w hw => ?_
  refine ⟨F, ?_, ?_⟩
  · have h1 : Sat G w (FreshA X :: [EofA ea eT ef, F]) := hw
    obtain ⟨_, h2⟩ := h1.opens
    exact h2
  · rintro ⟨M', q'⟩ w' hw'
    refine ⟨(), rfl, ?_⟩
    exact Sat.shuts (f := fun x : PM × Regs => [DecC X.d X.dd X.sb X.g 0 X.bs.length true, DictC X.dd X.db X.n (X.pre + X.bs.length) X.pre X.bs.length, DictD X.db X.all (X.pre + X.bs.length) X.n, cel X.sb 270 (stC X.T x.1 X.c x.2), ChD X.T x.1, DecS X.g X.R x.1 []]) (M', q') hw'
/-- Over slices that are all of it. -/
theorem splice_size {ps : Array Value} {o : Nat} {news : List Value} (h : o + news.length ≤ ps.size) : (splice ps o news).size = ps.size := by
  unfold splice
  simp only [List.size_toArray, List.length_append, List.length_take, List.length_drop, Array.length_toList]
  omega
theorem piece_zero (all : List Nat) (i : Nat) : piece all i 0 = [] := rfl
set_option maxRecDepth 100000 in
set_option maxHeartbeats 2000000 in
theorem decRead_con {G : Gst} (X : DecP G) (hX : X.Ok) (fresh : Bool) (re pb po pl pc : Nat) (ps : Array Value) (hf : fresh = true → re = X.pre) (hre : X.pre ≤ re ∧ re ≤ X.pre + X.bs.length) (hp : po + pl ≤ ps.size) (hpl : 1 ≤ pl ∧ pl ≤ 100000) (hpc : pl ≤ pc) (ea : Addr) (eT : TypeId) (ef : Nat × Nat) :
    Con Tryz.prog G 149 #[.pointer (some ⟨X.d, 0, none⟩), .slice (some ⟨pb, po, none⟩) pl pc] [DecSt X fresh re, cel pb 5 ps, EofA ea eT ef] (fun _ : Unit => .tuple #[.int .i64 (min pl (X.pre + X.bs.length - re) : Nat), if X.pre + X.bs.length - re < pl then eofV ea else .nilIface])
      (fun _ => [DecSt X false (re + min pl (X.pre + X.bs.length - re)), cel pb 5 (splice ps po (piece X.all re (min pl (X.pre + X.bs.length - re)))), EofA ea eT ef]) := by
  obtain ⟨rem, hrem⟩ : ∃ x, X.pre + X.bs.length - re = x := ⟨_, rfl⟩
  have hn := hX.n
  have hpos := hX.pos
  rw [hrem]
  refine Con.intro Tryz.func149 rfl (by kernel_rfl) Tryz.ntmps149 (Nat.le_of_ble_eq_true rfl) ?_
  intro F
  show JC _ _ _ _ _ _ [(0, _), (1, _)] _ [_, _, _, _]
  refine sR ?_
  refine oC ?_
  refine oC ?_
  refine nC (sR ?_)
  refine oC ?_
  refine nC (JC.block ?_)
  refine JC.loop (ι := Bool × Nat) (fun x => (x.1 = true → re = X.pre ∧ x.2 = 0) ∧ (x.2 = 0 ∨ (x.2 = rem ∧ 0 < rem ∧ rem < pl))) (fun x => [(0, .pointer (some ⟨X.d, 0, none⟩)), (1, .slice (some ⟨pb, po, none⟩) pl pc), (4, .int .i64 (x.2 : Nat))]) (fun x => [DecSt X x.1 (re + x.2), cel pb 5 (splice ps po (piece X.all re x.2)), EofA ea eT ef, F]) (fun x => if x.1 then 3 else if x.2 = 0 then 2 else 1) (fresh, 0) ⟨fun h => ⟨hf h, rfl⟩, .inl rfl⟩ xag (by dsimp only; rw [piece_zero, splice_nil, Nat.add_zero]; exact xpkE) ?_
  rintro ⟨fr, m⟩ base' ⟨h1, h2⟩
  dsimp only at h1 h2 ⊢
  cases fr
  · skip
    rcases h2 with rfl | ⟨rfl, hr0, hrp⟩
    · skip
      rw [piece_zero, splice_nil, Nat.add_zero]
      refine JC.as (A := DecSt X false re) (A' := Ex fun x : PM × Regs => [DecC X.d X.dd X.sb X.g 0 X.bs.length true, DictC X.dd X.db X.n (X.pre + X.bs.length) (re) X.bs.length, DictD X.db X.all (X.pre + X.bs.length) X.n, cel X.sb 270 (stC X.T x.1 X.c x.2), ChD X.T x.1, DecS X.g X.R x.1 []]) xpick (rfl) ?_
      refine JC.open xpick ?_
      rintro ⟨M', q'⟩
      show JC _ _ _ _ _ _ _ _ (_ :: _ :: _ :: _ :: _ :: _ :: _ :: _ :: _ :: _)
      refine JC.block (JC.seq ?_)
      refine JC.regionM [(0, true), (1, true), (2, true), (3, true), (4, true), (5, true), (6, true), (7, false), (8, true), (9, true), (10, true), (11, true), (12, true)] mixed (by kernel_rfl) ?_
      refine JM.py ao ⟨fun _ => Py.move xe⟩ ?_
      refine JM.py ao ⟨fun _ => Py.nil xe⟩ ?_
      refine JM.py ao ⟨fun _ => Py.fld fld237_0 xe xoff⟩ ?_
      refine JM.ld ao scal187 xe xpick xrow ?_
      refine JM.py ao ⟨fun _ => Py.move xe⟩ ?_
      refine JM.py ao ⟨fun _ => Py.move xe⟩ ?_
      refine JM.py ao ⟨fun _ => Py.slc (l := 0) (h := pl) (p := po) (q := pl) (c := pc) Tryz.underlying22 siz5 xe (Bd.some xe (by omega)) Bd.none (by omega) (by omega) (by omega) (by omega) (by omega) (by omega)⟩ ?_
      refine JM.eff ao ?_
      refine JO.call (Evs.cons xe (Evs.cons xe Evs.nil)) (dictRead_con G X.dd X.db X.n (X.pre + X.bs.length) re X.bs.length pb po pl pc ps X.all hn.2 ⟨hre.2, by omega⟩ hp (by omega) hpc) xpkE ?_
      rintro _
      show JO _ _ _ _ _ _ _ ((15, _) :: _) _ (_ :: _ :: _ :: _ :: _)
      rw [hrem]
      by_cases hr0 : rem = 0
      · skip
        subst hr0
        rw [show min pl 0 = 0 by omega]
        refine JO.nil ?_
        refine JX.mix (Kept.drop (Forced.step (by kernel_rfl)) Kept.nil) ?_
        refine JM.py ao ⟨fun _ => Py.move xe⟩ ?_
        refine JM.py ao ⟨fun _ => Py.extrI xe xix⟩ ?_
        refine JM.py ao ⟨fun _ => Py.extrI xe xix⟩ ?_
        refine JM.py ao ⟨fun _ => Py.assign xe⟩ ?_
        refine JM.py ao ⟨fun _ => Py.assign xe⟩ ?_
        refine JM.nil (JX.code (JC.seq (sR ?_)))
        refine oM ?_
        first | refine JO.py (Py.neqNil Tryz.underlying70 xe rfl) ?_ | refine JO.py (Py.neqHeld Tryz.underlying70 xe rfl) ?_
        refine nC ?_
        refine cF ?_
        refine JC.skip (JX.code (JC.seq (sR ?_)))
        refine oM ?_
        first | refine oD (Py.eql xe ev_const) ?_ | refine oU (Py.eql xe ev_const) ?_ | refine JO.py (Py.eql xe ev_const) ?_
        refine oM ?_
        first | (refine gT ?_; (refine oM ?_)) | refine kF ?_
        first | (refine gT ?_; (refine JO.py (Py.nil xe) ?_)) | refine kF ?_
        first | (refine gT ?_; (refine JO.py (Py.fld fld237_5 xe xoff) ?_)) | refine kF ?_
        first | (refine gT ?_; (refine JO.py (Py.load scal4 xe xpick xrow) ?_)) | refine kF ?_
        first | refine JO.py (Py.pickT xe xe) ?_ | refine JO.py (Py.pickF xe ev_const) ?_
        refine nC ?_
        refine cT ?_
        refine JC.seq ?_
        refine JC.regionD mixed (by kernel_rfl) ?_
        refine JD.py (Py.move xe) ?_
        refine JD.py (Py.load scal70 ev_glob xpick xrow) ?_
        refine JD.py (Py.assign xe) ?_
        refine JD.py (Py.assign xe) ?_
        refine JD.nilN (JX.code (JC.ret (JX.ret (JX.blockR (JX.ret (JX.blockR ?_))))))
        refine JX.shut (f := (fun x : PM × Regs => [DecC X.d X.dd X.sb X.g 0 X.bs.length true, DictC X.dd X.db X.n (X.pre + X.bs.length) (re + 0) X.bs.length, DictD X.db X.all (X.pre + X.bs.length) X.n, cel X.sb 270 (stC X.T x.1 X.c x.2), ChD X.T x.1, DecS X.g X.R x.1 []])) ((M', q')) xpicks ?_
        refine JX.as (A := Ex fun x : PM × Regs => [DecC X.d X.dd X.sb X.g 0 X.bs.length true, DictC X.dd X.db X.n (X.pre + X.bs.length) (re + 0) X.bs.length, DictD X.db X.all (X.pre + X.bs.length) X.n, cel X.sb 270 (stC X.T x.1 X.c x.2), ChD X.T x.1, DecS X.g X.R x.1 []]) (A' := DecSt X false (re + 0)) xpick (rfl) ?_
        rw [if_pos (by omega)]
        refine JX.end2 (Or.inl rfl) (()) Tryz.results149 (tup2 ((xe).trans (by first | exact xval | (dsimp only; exact xval))) ((xe).trans (by first | exact xval | (dsimp only; exact xval)))) xpkE
      · skip
        refine JO.nil ?_
        refine JX.mix (Kept.drop (Forced.step (by kernel_rfl)) Kept.nil) ?_
        refine JM.py ao ⟨fun _ => Py.move xe⟩ ?_
        refine JM.py ao ⟨fun _ => Py.extrI xe xix⟩ ?_
        refine JM.py ao ⟨fun _ => Py.extrI xe xix⟩ ?_
        refine JM.py ao ⟨fun _ => Py.assign xe⟩ ?_
        refine JM.py ao ⟨fun _ => Py.assign xe⟩ ?_
        refine JM.nil (JX.code (JC.seq (sR ?_)))
        refine oM ?_
        first | refine JO.py (Py.neqNil Tryz.underlying70 xe rfl) ?_ | refine JO.py (Py.neqHeld Tryz.underlying70 xe rfl) ?_
        refine nC ?_
        refine cF ?_
        refine JC.skip (JX.code (JC.seq (sR ?_)))
        refine oM ?_
        first | refine oD (Py.eql xe ev_const) ?_ | refine oU (Py.eql xe ev_const) ?_ | refine JO.py (Py.eql xe ev_const) ?_
        refine oM ?_
        first | (refine gT ?_; (refine oM ?_)) | refine kF ?_
        first | (refine gT ?_; (refine JO.py (Py.nil xe) ?_)) | refine kF ?_
        first | (refine gT ?_; (refine JO.py (Py.fld fld237_5 xe xoff) ?_)) | refine kF ?_
        first | (refine gT ?_; (refine JO.py (Py.load scal4 xe xpick xrow) ?_)) | refine kF ?_
        first | refine JO.py (Py.pickT xe xe) ?_ | refine JO.py (Py.pickF xe ev_const) ?_
        refine nC ?_
        refine cF ?_
        refine JC.skip (JX.code (sR ?_))
        refine oM ?_
        refine oM ?_
        refine JO.py (Py.add xe xe wI) ?_
        refine oA ?_
        refine nC (JC.seq (sR ?_))
        refine oM ?_
        refine oM ?_
        refine JO.py (Py.lenS Tryz.underlying22 xe) ?_
        first | refine oD (Py.geq xe xe) ?_ | refine oU (Py.geq xe xe) ?_ | refine JO.py (Py.geq xe xe) ?_
        refine nC ?_
        by_cases hpr : pl ≤ rem
        · skip
          rw [show min pl rem = pl by omega]
          refine cT ?_
          refine sR ?_
          refine oM ?_
          refine oA ?_
          refine oC ?_
          refine nC (JC.ret (JX.ret (JX.blockR (JX.ret (JX.blockR ?_)))))
          refine JX.shut (f := (fun x : PM × Regs => [DecC X.d X.dd X.sb X.g 0 X.bs.length true, DictC X.dd X.db X.n (X.pre + X.bs.length) (re + pl) X.bs.length, DictD X.db X.all (X.pre + X.bs.length) X.n, cel X.sb 270 (stC X.T x.1 X.c x.2), ChD X.T x.1, DecS X.g X.R x.1 []])) ((M', q')) xpicks ?_
          refine JX.as (A := Ex fun x : PM × Regs => [DecC X.d X.dd X.sb X.g 0 X.bs.length true, DictC X.dd X.db X.n (X.pre + X.bs.length) (re + pl) X.bs.length, DictD X.db X.all (X.pre + X.bs.length) X.n, cel X.sb 270 (stC X.T x.1 X.c x.2), ChD X.T x.1, DecS X.g X.R x.1 []]) (A' := DecSt X false (re + pl)) xpick (rfl) ?_
          rw [if_neg (by omega)]
          refine JX.end2 (Or.inl rfl) (()) Tryz.results149 (tup2 ((xe).trans (by first | exact xval | (dsimp only; exact xval))) ((xe).trans (by first | exact xval | (dsimp only; exact xval)))) xpkE
        · skip
          rw [show min pl rem = rem by omega]
          refine cF ?_
          refine JC.skip (JX.code (sR ?_))
          refine oM ?_
          refine JO.call (Evs.cons xe Evs.nil) (decEos_con G X.d X.dd X.sb X.g 0 X.bs.length ea eT ef) xpkE ?_
          rintro _
          show JO _ _ _ _ _ _ _ ((40, _) :: _) _ (_ :: _ :: _ :: _)
          refine oA ?_
          refine nC (sR ?_)
          refine oM ?_
          first | refine JO.py (Py.neqNil Tryz.underlying70 xe rfl) ?_ | refine JO.py (Py.neqHeld Tryz.underlying70 xe rfl) ?_
          refine oM ?_
          first | (refine gT ?_; (refine oM ?_)) | refine kF ?_
          first | (refine gT ?_; (refine JO.py (Py.load scal70 ev_glob xpick xrow) ?_)) | refine kF ?_
          refine gT ?_
          refine JO.py (Py.neqSame Tryz.underlying70 comp215 Tryz.underlying215 siz217 xe xe) ?_
          first | refine JO.py (Py.pickT xe xe) ?_ | refine JO.py (Py.pickF xe ev_const) ?_
          refine nC ?_
          refine cF ?_
          refine JC.skip (JX.blockN ?_)
          refine JX.shut (f := (fun x : PM × Regs => [DecC X.d X.dd X.sb X.g 0 X.bs.length true, DictC X.dd X.db X.n (X.pre + X.bs.length) (re + rem) X.bs.length, DictD X.db X.all (X.pre + X.bs.length) X.n, cel X.sb 270 (stC X.T x.1 X.c x.2), ChD X.T x.1, DecS X.g X.R x.1 []])) ((M', q')) xpicks ?_
          refine JX.as (A := Ex fun x : PM × Regs => [DecC X.d X.dd X.sb X.g 0 X.bs.length true, DictC X.dd X.db X.n (X.pre + X.bs.length) (re + rem) X.bs.length, DictD X.db X.all (X.pre + X.bs.length) X.n, cel X.sb 270 (stC X.T x.1 X.c x.2), ChD X.T x.1, DecS X.g X.R x.1 []]) (A' := DecSt X false (re + rem)) xpick (rfl) ?_
          refine JX.loop (false, rem) ⟨fun h => (by cases h), .inr ⟨rfl, by omega, by omega⟩⟩ (by simp [hr0]) xag xpkE
    · skip
      refine JC.as (A := DecSt X false (re + m)) (A' := Ex fun x : PM × Regs => [DecC X.d X.dd X.sb X.g 0 X.bs.length true, DictC X.dd X.db X.n (X.pre + X.bs.length) (re + m) X.bs.length, DictD X.db X.all (X.pre + X.bs.length) X.n, cel X.sb 270 (stC X.T x.1 X.c x.2), ChD X.T x.1, DecS X.g X.R x.1 []]) xpick (rfl) ?_
      refine JC.open xpick ?_
      rintro ⟨M', q'⟩
      show JC _ _ _ _ _ _ _ _ (_ :: _ :: _ :: _ :: _ :: _ :: _ :: _ :: _ :: _)
      refine JC.block (JC.seq ?_)
      refine JC.regionM [(0, true), (1, true), (2, true), (3, true), (4, true), (5, true), (6, true), (7, false), (8, true), (9, true), (10, true), (11, true), (12, true)] mixed (by kernel_rfl) ?_
      refine JM.py ao ⟨fun _ => Py.move xe⟩ ?_
      refine JM.py ao ⟨fun _ => Py.nil xe⟩ ?_
      refine JM.py ao ⟨fun _ => Py.fld fld237_0 xe xoff⟩ ?_
      refine JM.ld ao scal187 xe xpick xrow ?_
      refine JM.py ao ⟨fun _ => Py.move xe⟩ ?_
      refine JM.py ao ⟨fun _ => Py.move xe⟩ ?_
      refine JM.py ao ⟨fun _ => Py.slc (l := m) (h := pl) (p := po + m) (q := pl - m) (c := pc - m) Tryz.underlying22 siz5 xe (Bd.some xe (by omega)) Bd.none (by omega) (by omega) (by omega) (by omega) (by omega) (by omega)⟩ ?_
      have hss : (splice ps po (piece X.all re m)).size = ps.size := splice_size (by rw [piece_len]; omega)
      refine JM.eff ao ?_
      refine JO.call (Evs.cons xe (Evs.cons xe Evs.nil)) (dictRead_con G X.dd X.db X.n (X.pre + X.bs.length) (re + m) X.bs.length pb (po + m) (pl - m) (pc - m) (splice ps po (piece X.all re m)) X.all hn.2 ⟨by omega, by omega⟩ (by rw [hss]; omega) (by omega) (by omega)) xpkE ?_
      rintro _
      show JO _ _ _ _ _ _ _ ((15, _) :: _) _ (_ :: _ :: _ :: _ :: _)
      rw [show X.pre + X.bs.length - (re + m) = 0 by omega, show min (pl - m) 0 = 0 by omega, piece_zero, splice_nil, Nat.add_zero]
      refine JO.nil ?_
      refine JX.mix (Kept.drop (Forced.step (by kernel_rfl)) Kept.nil) ?_
      refine JM.py ao ⟨fun _ => Py.move xe⟩ ?_
      refine JM.py ao ⟨fun _ => Py.extrI xe xix⟩ ?_
      refine JM.py ao ⟨fun _ => Py.extrI xe xix⟩ ?_
      refine JM.py ao ⟨fun _ => Py.assign xe⟩ ?_
      refine JM.py ao ⟨fun _ => Py.assign xe⟩ ?_
      refine JM.nil (JX.code (JC.seq (sR ?_)))
      refine oM ?_
      first | refine JO.py (Py.neqNil Tryz.underlying70 xe rfl) ?_ | refine JO.py (Py.neqHeld Tryz.underlying70 xe rfl) ?_
      refine nC ?_
      refine cF ?_
      refine JC.skip (JX.code (JC.seq (sR ?_)))
      refine oM ?_
      first | refine oD (Py.eql xe ev_const) ?_ | refine oU (Py.eql xe ev_const) ?_ | refine JO.py (Py.eql xe ev_const) ?_
      refine oM ?_
      first | (refine gT ?_; (refine oM ?_)) | refine kF ?_
      first | (refine gT ?_; (refine JO.py (Py.nil xe) ?_)) | refine kF ?_
      first | (refine gT ?_; (refine JO.py (Py.fld fld237_5 xe xoff) ?_)) | refine kF ?_
      first | (refine gT ?_; (refine JO.py (Py.load scal4 xe xpick xrow) ?_)) | refine kF ?_
      first | refine JO.py (Py.pickT xe xe) ?_ | refine JO.py (Py.pickF xe ev_const) ?_
      refine nC ?_
      refine cT ?_
      refine JC.seq ?_
      refine JC.regionD mixed (by kernel_rfl) ?_
      refine JD.py (Py.move xe) ?_
      refine JD.py (Py.load scal70 ev_glob xpick xrow) ?_
      refine JD.py (Py.assign xe) ?_
      refine JD.py (Py.assign xe) ?_
      refine JD.nilN (JX.code (JC.ret (JX.ret (JX.blockR (JX.ret (JX.blockR ?_))))))
      refine JX.shut (f := (fun x : PM × Regs => [DecC X.d X.dd X.sb X.g 0 X.bs.length true, DictC X.dd X.db X.n (X.pre + X.bs.length) (re + m) X.bs.length, DictD X.db X.all (X.pre + X.bs.length) X.n, cel X.sb 270 (stC X.T x.1 X.c x.2), ChD X.T x.1, DecS X.g X.R x.1 []])) ((M', q')) xpicks ?_
      refine JX.as (A := Ex fun x : PM × Regs => [DecC X.d X.dd X.sb X.g 0 X.bs.length true, DictC X.dd X.db X.n (X.pre + X.bs.length) (re + m) X.bs.length, DictD X.db X.all (X.pre + X.bs.length) X.n, cel X.sb 270 (stC X.T x.1 X.c x.2), ChD X.T x.1, DecS X.g X.R x.1 []]) (A' := DecSt X false (re + m)) xpick (rfl) ?_
      rw [show min pl m = m by omega, if_pos hrp]
      refine JX.end2 (Or.inl rfl) (()) Tryz.results149 (tup2 ((xe).trans (by first | exact xval | (dsimp only; exact xval))) ((xe).trans (by first | exact xval | (dsimp only; exact xval)))) xpkE
  · skip
    obtain ⟨rfl, rfl⟩ := h1 rfl
    rw [piece_zero, splice_nil, Nat.add_zero]
    refine JC.as (A := DecSt X true X.pre) (A' := Ex fun _ : Unit => [DecC X.d X.dd X.sb X.g 0 X.bs.length false, DictC X.dd X.db X.n X.pre X.pre 0, DictD X.db X.all X.pre X.n, cel X.sb 270 (stC X.T M0 X.c LzS.start.regs), ChD X.T M0, DecS X.g X.R M0 (symsEv X.c X.bs LzS.start X.l)]) xpick (rfl) ?_
    refine JC.open xpick ?_
    rintro _
    show JC _ _ _ _ _ _ _ _ (_ :: _ :: _ :: _ :: _ :: _ :: _ :: _ :: _ :: _)
    refine JC.block (JC.seq ?_)
    refine JC.regionM [(0, true), (1, true), (2, true), (3, true), (4, true), (5, true), (6, true), (7, false), (8, true), (9, true), (10, true), (11, true), (12, true)] mixed (by kernel_rfl) ?_
    refine JM.py ao ⟨fun _ => Py.move xe⟩ ?_
    refine JM.py ao ⟨fun _ => Py.nil xe⟩ ?_
    refine JM.py ao ⟨fun _ => Py.fld fld237_0 xe xoff⟩ ?_
    refine JM.ld ao scal187 xe xpick xrow ?_
    refine JM.py ao ⟨fun _ => Py.move xe⟩ ?_
    refine JM.py ao ⟨fun _ => Py.move xe⟩ ?_
    refine JM.py ao ⟨fun _ => Py.slc (l := 0) (h := pl) (p := po) (q := pl) (c := pc) Tryz.underlying22 siz5 xe (Bd.some xe (by omega)) Bd.none (by omega) (by omega) (by omega) (by omega) (by omega) (by omega)⟩ ?_
    refine JM.eff ao ?_
    refine JO.call (Evs.cons xe (Evs.cons xe Evs.nil)) (dictRead_con G X.dd X.db X.n X.pre X.pre 0 pb po pl pc ps X.all hn.2 ⟨Nat.le_refl _, by omega⟩ hp (by omega) hpc) xpkE ?_
    rintro _
    show JO _ _ _ _ _ _ _ ((15, _) :: _) _ (_ :: _ :: _ :: _ :: _)
    rw [Nat.sub_self, show min pl 0 = 0 by omega, piece_zero, splice_nil, Nat.add_zero]
    refine JO.nil ?_
    refine JX.mix (Kept.drop (Forced.step (by kernel_rfl)) Kept.nil) ?_
    refine JM.py ao ⟨fun _ => Py.move xe⟩ ?_
    refine JM.py ao ⟨fun _ => Py.extrI xe xix⟩ ?_
    refine JM.py ao ⟨fun _ => Py.extrI xe xix⟩ ?_
    refine JM.py ao ⟨fun _ => Py.assign xe⟩ ?_
    refine JM.py ao ⟨fun _ => Py.assign xe⟩ ?_
    refine JM.nil (JX.code (JC.seq (sR ?_)))
    refine oM ?_
    first | refine JO.py (Py.neqNil Tryz.underlying70 xe rfl) ?_ | refine JO.py (Py.neqHeld Tryz.underlying70 xe rfl) ?_
    refine nC ?_
    refine cF ?_
    refine JC.skip (JX.code (JC.seq (sR ?_)))
    refine oM ?_
    first | refine oD (Py.eql xe ev_const) ?_ | refine oU (Py.eql xe ev_const) ?_ | refine JO.py (Py.eql xe ev_const) ?_
    refine oM ?_
    first | (refine gT ?_; (refine oM ?_)) | refine kF ?_
    first | (refine gT ?_; (refine JO.py (Py.nil xe) ?_)) | refine kF ?_
    first | (refine gT ?_; (refine JO.py (Py.fld fld237_5 xe xoff) ?_)) | refine kF ?_
    first | (refine gT ?_; (refine JO.py (Py.load scal4 xe xpick xrow) ?_)) | refine kF ?_
    first | refine JO.py (Py.pickT xe xe) ?_ | refine JO.py (Py.pickF xe ev_const) ?_
    refine nC ?_
    refine cF ?_
    refine JC.skip (JX.code (sR ?_))
    refine oM ?_
    refine oM ?_
    refine JO.py (Py.add xe xe wI) ?_
    refine oA ?_
    refine nC (JC.seq (sR ?_))
    refine oM ?_
    refine oM ?_
    refine JO.py (Py.lenS Tryz.underlying22 xe) ?_
    first | refine oD (Py.geq xe xe) ?_ | refine oU (Py.geq xe xe) ?_ | refine JO.py (Py.geq xe xe) ?_
    refine nC ?_
    refine cF ?_
    refine JC.skip (JX.code (sR ?_))
    refine oM ?_
    refine JO.shut (f := (fun _ : Unit => [DecC X.d X.dd X.sb X.g 0 X.bs.length false, DictC X.dd X.db X.n X.pre X.pre 0, DictD X.db X.all X.pre X.n, cel X.sb 270 (stC X.T M0 X.c LzS.start.regs), ChD X.T M0, DecS X.g X.R M0 (symsEv X.c X.bs LzS.start X.l)])) (()) xpicks ?_
    refine JO.as (A := Ex fun _ : Unit => [DecC X.d X.dd X.sb X.g 0 X.bs.length false, DictC X.dd X.db X.n X.pre X.pre 0, DictD X.db X.all X.pre X.n, cel X.sb 270 (stC X.T M0 X.c LzS.start.regs), ChD X.T M0, DecS X.g X.R M0 (symsEv X.c X.bs LzS.start X.l)]) (A' := FreshA X) xpick (rfl) ?_
    refine JO.call (Evs.cons xe Evs.nil) (decRest_con X hX ea eT ef) xpkE ?_
    rintro _
    show JO _ _ _ _ _ _ _ ((40, _) :: _) _ (_ :: _ :: _ :: _)
    refine oA ?_
    refine nC (sR ?_)
    refine oM ?_
    first | refine JO.py (Py.neqNil Tryz.underlying70 xe rfl) ?_ | refine JO.py (Py.neqHeld Tryz.underlying70 xe rfl) ?_
    refine oM ?_
    first | (refine gT ?_; (refine oM ?_)) | refine kF ?_
    first | (refine gT ?_; (refine JO.py (Py.load scal70 ev_glob xpick xrow) ?_)) | refine kF ?_
    refine gT ?_
    refine JO.py (Py.neqSame Tryz.underlying70 comp215 Tryz.underlying215 siz217 xe xe) ?_
    first | refine JO.py (Py.pickT xe xe) ?_ | refine JO.py (Py.pickF xe ev_const) ?_
    refine nC ?_
    refine cF ?_
    refine JC.skip (JX.blockN ?_)
    refine JX.as (A := DoneA X X.pre) (A' := DecSt X false X.pre) xpick (rfl) ?_
    refine JX.loop (false, 0) ⟨fun h => (by cases h), .inl rfl⟩ (by simp) xag (by dsimp only; rw [piece_zero, splice_nil, Nat.add_zero]; exact xpkE)
end Go.Proofs.YtfpepghmbeoanaaGreatDoor
end

section
open Go Go.RowKit
namespace Go.Proofs.YtfpepghmbeoanaaGreatDoor
open Lz
theorem code_con2 (G : Gst) (g : Nat) (S : ByteSrc G) (r c x c' : Nat) (rest : List Nat) (hc : c < 16777216) (hx : x < 256) (h : c * 256 + x = c') :
    Con Tryz.prog G 106 #[.pointer (some ⟨g, 0, none⟩)] [RdA g S r c, S.A (x :: rest)] (fun _ : Unit => .nilIface) (fun _ => [RdA g S r c', S.A rest]) := by
  subst h; exact code_con G g S r c x rest hc hx
set_option maxRecDepth 100000 in
set_option maxHeartbeats 1000000 in
theorem newRange_con (G : Gst) (S : ByteSrc G) (x1 x2 x3 x4 : Nat) (rb : List Nat) (h1 : x1 < 256) (h2 : x2 < 256) (h3 : x3 < 256) (h4 : x4 < 256) (hn : num [x1, x2, x3, x4] < 4294967295) :
    Con Tryz.prog G 94 #[.iface S.t S.u] [S.A (0 :: x1 :: x2 :: x3 :: x4 :: rb)] (fun g : Nat => .tuple #[.pointer (some ⟨g, 0, none⟩), .nilIface]) (fun g => [RdA g S 4294967295 (num [x1, x2, x3, x4]), S.A rb]) := by
  have hnum : num [x1, x2, x3, x4] = (((0 * 256 + x1) * 256 + x2) * 256 + x3) * 256 + x4 := rfl
  obtain ⟨c4, hc4⟩ : ∃ c, num [x1, x2, x3, x4] = c := ⟨_, rfl⟩
  rw [hc4] at hnum hn ⊢
  obtain ⟨c1, hc1⟩ : ∃ c, 0 * 256 + x1 = c := ⟨_, rfl⟩
  rw [hc1] at hnum
  obtain ⟨c2, hc2⟩ : ∃ c, c1 * 256 + x2 = c := ⟨_, rfl⟩
  rw [hc2] at hnum
  obtain ⟨c3, hc3⟩ : ∃ c, c2 * 256 + x3 = c := ⟨_, rfl⟩
  rw [hc3] at hnum
  clear hc4
  refine Con.intro Tryz.func94 rfl (by kernel_rfl) Tryz.ntmps94 (Nat.le_of_ble_eq_true rfl) ?_
  intro F
  show JC _ _ _ _ _ _ [(0, _)] _ [_, _]
  refine sR ?_
  refine oC ?_
  refine oC ?_
  refine nC (sR ?_)
  refine oM ?_
  refine JO.py (Py.build bld288 (Pts.cons xe (Pts.cons ev_const Pts.nil)) xfl) ?_
  refine JO.boxA xe ?_; intro b8
  refine oA ?_
  refine nC (sR ?_)
  refine oM ?_
  refine JO.py (Py.nil xe) ?_
  refine JO.py (Py.fld fld288_0 xe xoff) ?_
  refine JO.py (Py.load scal169 xe xpick xrow) ?_
  refine JO.invoke xe Evs.nil (S.m) (S.con 0 (x1 :: x2 :: x3 :: x4 :: rb) (by decide)) xpkE ?_
  rintro _
  show JO _ _ _ _ _ _ _ ((14, _) :: _) _ (_ :: _ :: _ :: _)
  refine oM ?_
  refine JO.py (Py.extrI xe xix) ?_
  refine JO.py (Py.extrI xe xix) ?_
  refine oA ?_
  refine oA ?_
  refine nC (JC.seq (sR ?_))
  refine oM ?_
  first | refine JO.py (Py.neqNil Tryz.underlying70 xe rfl) ?_ | refine JO.py (Py.neqHeld Tryz.underlying70 xe rfl) ?_
  refine nC ?_
  refine cF ?_
  refine JC.skip (JX.code (JC.seq (sR ?_)))
  refine oM ?_
  first | refine oD (Py.neq xe ev_const) ?_ | refine oU (Py.neq xe ev_const) ?_ | refine JO.py (Py.neq xe ev_const) ?_
  refine nC ?_
  refine cF ?_
  refine JC.skip (JX.code (JC.seq (sR ?_)))
  refine oC ?_
  refine nC (JC.block ?_)
  refine JC.unroll 4 ?_
  refine JC.seq (sR ?_)
  refine oM ?_
  first | refine oD (Py.lss xe ev_const) ?_ | refine oU (Py.lss xe ev_const) ?_ | refine JO.py (Py.lss xe ev_const) ?_
  refine nC ?_
  refine cT ?_
  refine JC.skip (JX.code (JC.seq (JC.block (sR ?_))))
  refine oM ?_
  refine JO.call (Evs.cons xe Evs.nil) (code_con2 G b8 S 4294967295 0 x1 c1 (x2 :: x3 :: x4 :: rb) (by decide) h1 hc1) xpkE ?_
  rintro _
  show JO _ _ _ _ _ _ _ ((28, _) :: _) _ (_ :: _ :: _ :: _)
  refine oA ?_
  refine nC (sR ?_)
  refine oM ?_
  first | refine JO.py (Py.neqNil Tryz.underlying70 xe rfl) ?_ | refine JO.py (Py.neqHeld Tryz.underlying70 xe rfl) ?_
  refine nC ?_
  refine cF ?_
  refine JC.skip (JX.blockN (JX.code (JC.region ?_)))
  refine oM ?_
  refine JO.py (Py.add xe ev_const wI) ?_
  refine oA ?_
  refine JO.nil (JX.again (JC.seq (sR ?_)))
  refine oM ?_
  first | refine oD (Py.lss xe ev_const) ?_ | refine oU (Py.lss xe ev_const) ?_ | refine JO.py (Py.lss xe ev_const) ?_
  refine nC ?_
  refine cT ?_
  refine JC.skip (JX.code (JC.seq (JC.block (sR ?_))))
  refine oM ?_
  refine JO.call (Evs.cons xe Evs.nil) (code_con2 G b8 S 4294967295 c1 x2 c2 (x3 :: x4 :: rb) (by omega) h2 hc2) xpkE ?_
  rintro _
  show JO _ _ _ _ _ _ _ ((28, _) :: _) _ (_ :: _ :: _ :: _)
  refine oA ?_
  refine nC (sR ?_)
  refine oM ?_
  first | refine JO.py (Py.neqNil Tryz.underlying70 xe rfl) ?_ | refine JO.py (Py.neqHeld Tryz.underlying70 xe rfl) ?_
  refine nC ?_
  refine cF ?_
  refine JC.skip (JX.blockN (JX.code (JC.region ?_)))
  refine oM ?_
  refine JO.py (Py.add xe ev_const wI) ?_
  refine oA ?_
  refine JO.nil (JX.again (JC.seq (sR ?_)))
  refine oM ?_
  first | refine oD (Py.lss xe ev_const) ?_ | refine oU (Py.lss xe ev_const) ?_ | refine JO.py (Py.lss xe ev_const) ?_
  refine nC ?_
  refine cT ?_
  refine JC.skip (JX.code (JC.seq (JC.block (sR ?_))))
  refine oM ?_
  refine JO.call (Evs.cons xe Evs.nil) (code_con2 G b8 S 4294967295 c2 x3 c3 (x4 :: rb) (by omega) h3 hc3) xpkE ?_
  rintro _
  show JO _ _ _ _ _ _ _ ((28, _) :: _) _ (_ :: _ :: _ :: _)
  refine oA ?_
  refine nC (sR ?_)
  refine oM ?_
  first | refine JO.py (Py.neqNil Tryz.underlying70 xe rfl) ?_ | refine JO.py (Py.neqHeld Tryz.underlying70 xe rfl) ?_
  refine nC ?_
  refine cF ?_
  refine JC.skip (JX.blockN (JX.code (JC.region ?_)))
  refine oM ?_
  refine JO.py (Py.add xe ev_const wI) ?_
  refine oA ?_
  refine JO.nil (JX.again (JC.seq (sR ?_)))
  refine oM ?_
  first | refine oD (Py.lss xe ev_const) ?_ | refine oU (Py.lss xe ev_const) ?_ | refine JO.py (Py.lss xe ev_const) ?_
  refine nC ?_
  refine cT ?_
  refine JC.skip (JX.code (JC.seq (JC.block (sR ?_))))
  refine oM ?_
  refine JO.call (Evs.cons xe Evs.nil) (code_con2 G b8 S 4294967295 c3 x4 c4 rb (by omega) h4 hnum.symm) xpkE ?_
  rintro _
  show JO _ _ _ _ _ _ _ ((28, _) :: _) _ (_ :: _ :: _ :: _)
  refine oA ?_
  refine nC (sR ?_)
  refine oM ?_
  first | refine JO.py (Py.neqNil Tryz.underlying70 xe rfl) ?_ | refine JO.py (Py.neqHeld Tryz.underlying70 xe rfl) ?_
  refine nC ?_
  refine cF ?_
  refine JC.skip (JX.blockN (JX.code (JC.region ?_)))
  refine oM ?_
  refine JO.py (Py.add xe ev_const wI) ?_
  refine oA ?_
  refine JO.nil (JX.again (JC.seq (sR ?_)))
  refine oM ?_
  first | refine oD (Py.lss xe ev_const) ?_ | refine oU (Py.lss xe ev_const) ?_ | refine JO.py (Py.lss xe ev_const) ?_
  refine nC ?_
  refine cF ?_
  refine JC.exit (JX.exit (JX.exit (JX.blockE (JX.code (JC.seq (JC.seq ?_))))))
  refine JC.regionD mixed (by kernel_rfl) ?_
  refine JD.py (Py.move xe) ?_
  refine JD.py (Py.nil xe) ?_
  refine JD.py (Py.fld fld288_2 xe xoff) ?_
  refine JD.py (Py.load scal45 xe xpick xrow) ?_
  refine JD.py (Py.move xe) ?_
  refine JD.py (Py.nil xe) ?_
  refine JD.py (Py.fld fld288_1 xe xoff) ?_
  refine JD.py (Py.load scal45 xe xpick xrow) ?_
  first | refine JD.py (Py.dec (Py.geq xe xe) (by omega)) ?_ | refine JD.py (Py.undec (Py.geq xe xe) (by omega)) ?_ | refine JD.py (Py.geq xe xe) ?_
  refine JD.nilN (JX.code ?_)
  refine cF ?_
  refine JC.skip (JX.code (sR ?_))
  refine oM ?_
  refine oA ?_
  refine oC ?_
  refine nC (JC.ret ?_)
  refine JX.end2 (Or.inl rfl) (b8) Tryz.results94 (tup2 ((xe).trans (by first | exact xval | (dsimp only; exact xval))) ((xe).trans (by first | exact xval | (dsimp only; exact xval)))) xpkE
theorem newBuf_con (G : Gst) (m : Nat) (hm : m ≤ 1000000) : Con Tryz.prog G 78 #[.int .i64 (m : Int)] [] (fun x : Nat × Nat => .pointer (some ⟨x.1, 0, none⟩)) (fun x => [cel x.1 219 #[.slice (some ⟨x.2, 0, none⟩) (m + 1) (m + 1), .int .i64 0, .int .i64 0], cel x.2 5 (Array.replicate (m + 1) (.int .u8 0))]) := by
  refine Con.intro Tryz.func78 rfl (by kernel_rfl) Tryz.ntmps78 (Nat.le_of_ble_eq_true rfl) ?_
  intro F
  show JC _ _ _ _ _ _ [(0, _)] _ [_]
  refine sR ?_
  refine oC ?_
  refine nC (sR ?_)
  refine oM ?_
  refine JO.py (Py.add xe ev_const wI) ?_
  refine JO.mkslice (m := m + 1) (c := m + 1) Tryz.underlying22 elm5 xe xe (by omega) (by omega) (by omega) (by omega) (by omega) ?_
  intro b5
  refine JO.py (Py.build bld219 (Pts.cons xe Pts.nil) xfl) ?_
  refine JO.boxA xe ?_; intro b7
  refine oA ?_
  refine nC (JC.ret ?_)
  refine JX.end1 (Or.inl rfl) ((b7, b5)) Tryz.results78 ((xe).trans (by first | exact xval | (dsimp only; exact xval))) xpkE
theorem dch_zero (all : List Nat) (n : Nat) : Array.replicate n (Value.int .u8 0) = dch all 0 n := by
  apply Array.ext_getElem?
  intro i
  by_cases h : i < n
  · rw [dch_get h, if_neg (Nat.not_lt_zero _)]; simp [h]
  · rw [Array.getElem?_eq_none (by simp; omega), Array.getElem?_eq_none (by rw [dch_size]; omega)]
theorem newDict_con (G : Gst) (m : Nat) (hm : 1 ≤ m ∧ m ≤ 1000000) (all : List Nat) : Con Tryz.prog G 66 #[.int .i64 (m : Int)] [] (fun x : Nat × Nat => .tuple #[.pointer (some ⟨x.1, 0, none⟩), .nilIface]) (fun x => [DictC x.1 x.2 (m + 1) 0 0 0, DictD x.2 all 0 (m + 1)]) := by
  refine Con.intro Tryz.func66 rfl (by kernel_rfl) Tryz.ntmps66 (Nat.le_of_ble_eq_true rfl) ?_
  intro F
  show JC _ _ _ _ _ _ [(0, _)] _ [_]
  refine sR ?_
  refine oC ?_
  refine oC ?_
  refine nC (JC.seq (sR ?_))
  refine oM ?_
  first | refine oD (Py.leq ev_const xe) ?_ | refine oU (Py.leq ev_const xe) ?_ | refine JO.py (Py.leq ev_const xe) ?_
  refine oM ?_
  first | (refine gT ?_; (refine oM ?_)) | refine kF ?_
  first | (refine gT ?_; (first | refine oD (Py.leq xe ev_const) ?_ | refine oU (Py.leq xe ev_const) ?_ | refine JO.py (Py.leq xe ev_const) ?_)) | refine kF ?_
  first | refine JO.py (Py.pickT xe xe) ?_ | refine JO.py (Py.pickF xe ev_const) ?_
  refine JO.py (Py.not xe (by first | with_reducible exact not_t | with_reducible exact not_f | exact rfl)) ?_
  refine nC ?_
  refine cF ?_
  refine JC.skip (JX.code (sR ?_))
  refine oM ?_
  refine JO.call (Evs.cons xe Evs.nil) (newBuf_con G m hm.2) xpkE ?_
  rintro ⟨b0, b1⟩
  show JO _ _ _ _ _ _ _ ((13, _) :: _) _ (_ :: _ :: _ :: _)
  rw [dch_zero all (m + 1)]
  refine JO.py (Py.nil xe) ?_
  first | refine JO.py (Py.loadA agg219 xe xpick (Nat.le_of_ble_eq_true rfl) rfl) ?_ | refine JO.py (Py.loadA agg219 xe xpick (by first | assumption | (simp; omega)) rfl) ?_
  refine JO.py (Py.build bld223 (Pts.cons xe Pts.nil) xfl) ?_
  refine JO.boxA xe ?_; intro b17
  refine oA ?_
  refine nC (sR ?_)
  refine oM ?_
  refine oA ?_
  refine oC ?_
  refine nC (JC.ret ?_)
  refine JX.end2 (Or.inl rfl) ((b17, b1)) Tryz.results66 (tup2 ((xe).trans (by first | exact xval | (dsimp only; exact xval))) ((xe).trans (by first | exact xval | (dsimp only; exact xval)))) xpkE
theorem newDec_con (G : Gst) (S : ByteSrc G) (x1 x2 x3 x4 : Nat) (rb : List Nat) (h1 : x1 < 256) (h2 : x2 < 256) (h3 : x3 < 256) (h4 : x4 < 256) (hn : num [x1, x2, x3, x4] < 4294967295) (sb dd db n fr re size : Nat) (M : PM) (l : List Ev) (hd : DecOK M 4294967295 (num [x1, x2, x3, x4]) rb l) :
    Con Tryz.prog G 73 #[.iface S.t S.u, .pointer (some ⟨sb, 0, none⟩), .pointer (some ⟨dd, 0, none⟩), .int .i64 (size : Int)] [S.A (0 :: x1 :: x2 :: x3 :: x4 :: rb), DictC dd db n fr re 0] (fun x : Nat × Nat => .tuple #[.pointer (some ⟨x.1, 0, none⟩), .nilIface])
      (fun x => [DecC x.1 dd sb x.2 0 size false, DictC dd db n fr re 0, DecS x.2 S M l]) := by
  refine Con.intro Tryz.func73 rfl (by kernel_rfl) Tryz.ntmps73 (Nat.le_of_ble_eq_true rfl) ?_
  intro F
  show JC _ _ _ _ _ _ [(0, _), (1, _), (2, _), (3, _)] _ [_, _, _]
  refine sR ?_
  refine oC ?_
  refine oC ?_
  refine nC (sR ?_)
  refine oM ?_
  refine JO.call (Evs.cons xe Evs.nil) (newRange_con G S x1 x2 x3 x4 rb h1 h2 h3 h4 hn) xpkE ?_
  rintro g
  show JO _ _ _ _ _ _ _ ((13, _) :: _) _ (_ :: _ :: _ :: _)
  refine oM ?_
  refine JO.py (Py.extrI xe xix) ?_
  refine JO.py (Py.extrI xe xix) ?_
  refine oA ?_
  refine oA ?_
  refine nC (JC.seq (sR ?_))
  refine oM ?_
  first | refine JO.py (Py.neqNil Tryz.underlying70 xe rfl) ?_ | refine JO.py (Py.neqHeld Tryz.underlying70 xe rfl) ?_
  refine nC ?_
  refine cF ?_
  refine JC.skip (JX.code (sR ?_))
  refine oM ?_
  refine oM ?_
  refine oM ?_
  refine oM ?_
  refine oM ?_
  refine JO.call (Evs.cons xe Evs.nil) (pos_con G dd db n fr re 0) xpkE ?_
  rintro _
  show JO _ _ _ _ _ _ _ ((24, _) :: _) _ (_ :: _ :: _)
  refine JO.py (Py.build bld237 (Pts.cons xe (Pts.cons xe (Pts.cons xe (Pts.cons xe (Pts.cons xe Pts.nil))))) xfl) ?_
  refine JO.boxA xe ?_; intro b26
  refine oA ?_
  refine nC (sR ?_)
  refine oM ?_
  refine oA ?_
  refine oC ?_
  refine nC (JC.ret ?_)
  refine JX.shut (f := (fun y : {y : Nat × Nat × List Nat // DecOK M y.1 y.2.1 y.2.2 l} => [RdA g S y.1.1 y.1.2.1, S.A y.1.2.2])) (⟨(4294967295, num [x1, x2, x3, x4], rb), hd⟩) xpicks ?_
  refine JX.as (A := Ex fun y : {y : Nat × Nat × List Nat // DecOK M y.1 y.2.1 y.2.2 l} => [RdA g S y.1.1 y.1.2.1, S.A y.1.2.2]) (A' := DecS g S M l) xpick (rfl) ?_
  refine JX.end2 (Or.inl rfl) ((b26, g)) Tryz.results73 (tup2 ((xe).trans (by first | exact xval | (dsimp only; exact xval))) ((xe).trans (by first | exact xval | (dsimp only; exact xval)))) xpkE
end Go.Proofs.YtfpepghmbeoanaaGreatDoor
end

section
open Go Go.RowKit
namespace Go.Proofs.YtfpepghmbeoanaaGreatDoor
open Lz
set_option maxRecDepth 100000 in
theorem probTree_con (G : Gst) (n : Nat) (hn : 1 ≤ n ∧ n ≤ 20) : Con Tryz.prog G 115 #[.int .i64 (n : Int)] [] (fun b : Nat => .agg #[.slice (some ⟨b, 0, none⟩) (2 ^ n) (2 ^ n), .int .u8 (n : Int)]) (fun b => [cel b 250 (chs half (2 ^ n))]) := by
  have hp20 : 2 ^ n ≤ 2 ^ 20 := Nat.pow_le_pow_right (by decide) hn.2
  have hpi : (1 : Int) * 2 ^ n = ((2 ^ n : Nat) : Int) := by push_cast; simp
  obtain ⟨pn, hpn⟩ : ∃ pn, 2 ^ n = pn := ⟨_, rfl⟩
  rw [hpn] at hp20 hpi ⊢
  refine Con.intro Tryz.func115 rfl (by kernel_rfl) Tryz.ntmps115 (Nat.le_of_ble_eq_true rfl) ?_
  intro F
  show JC _ _ _ _ _ _ [(0, _)] _ [_]
  refine sR ?_
  refine JO.allocA zer258 ?_; intro b2
  refine nC (JC.seq (sR ?_))
  refine oM ?_
  first | refine oD (Py.leq ev_const xe) ?_ | refine oU (Py.leq ev_const xe) ?_ | refine JO.py (Py.leq ev_const xe) ?_
  refine oM ?_
  first | (refine gT ?_; (refine oM ?_)) | refine kF ?_
  first | (refine gT ?_; (first | refine oD (Py.leq xe ev_const) ?_ | refine oU (Py.leq xe ev_const) ?_ | refine JO.py (Py.leq xe ev_const) ?_)) | refine kF ?_
  first | refine JO.py (Py.pickT xe xe) ?_ | refine JO.py (Py.pickF xe ev_const) ?_
  refine JO.py (Py.not xe (by first | with_reducible exact not_t | with_reducible exact not_f | exact rfl)) ?_
  refine nC ?_
  refine cF ?_
  refine JC.skip (JX.code (sR ?_))
  refine oM ?_
  first | refine JO.py (Py.conv cnv3_5 xe (w_u8 (by omega))) ?_ | refine JO.py (Py.conv cnv3_5 xe (m_u8 _)) ?_
  refine oM ?_
  first | refine JO.py (Py.conv cnv3_67 xe (w_u64 (by omega))) ?_ | refine JO.py (Py.conv cnv3_67 xe (m_u64 _)) ?_
  refine JO.py (Py.shlN n (c := ((pn : Nat) : Int)) ev_const xe (by omega) (by simp only [IntKind.bits]; omega) (by rw [hpi]; exact w_i64 (by omega))) ?_
  refine JO.mkslice (m := pn) (c := pn) Tryz.underlying253 elm250 xe xe rfl rfl (by omega) (by omega) (by omega) ?_
  intro b18
  refine JO.py (Py.build bld258 (Pts.cons xe (Pts.cons xe Pts.nil)) xfl) ?_
  refine JO.allocA zer258 ?_; intro b3
  refine JO.storeW siz258 xe xe (by first | rfl | (simp; done) | assumption | fail) (by first | (simp [Value.oneCell']; done) | assumption | fail) xpick (by first | rfl | (simp; done) | assumption | fail) ?_
  refine nC (JC.seq (sR ?_))
  refine JO.py (Py.fld fld258_0 xe xoff) ?_
  refine JO.py (Py.load scal253 xe xpick xrow) ?_
  refine JO.py (Py.lenS Tryz.underlying253 xe) ?_
  refine JO.py (Py.move ev_const) ?_
  refine nC (JC.block ?_)
  refine JC.as (A := cel b18 250 _) (A' := cel b18 250 (chs (fun j => if j < 0 then 1024 else 0) pn)) xpick (cel_eq (chs_new pn)) ?_
  refine JC.loop (ι := Nat) (fun i => i ≤ pn) (fun i => [(2, .pointer (some ⟨b2, 0, none⟩)), (3, .pointer (some ⟨b3, 0, none⟩)), (22, .int .i64 pn), (23, .int .i64 i)]) (fun i => [cel b18 250 (chs (fun j => if j < i then 1024 else 0) pn), cel b3 258 #[.slice (some ⟨b18, 0, none⟩) pn pn, .int .u8 (n : Int)], cel b2 258 #[.slice none 0 0, .int .u8 0], F]) (fun i => pn - i) 0 (Nat.zero_le _) xag xpkE ?_
  rintro i base' hi
  have hi : i ≤ pn := hi
  by_cases h : i < pn
  · skip
    have hsz : i < (chs (fun j => if j < i then 1024 else 0) pn).size := by rw [chs_size]; exact h
    refine sR ?_
    first | refine oD (Py.lss xe xe) ?_ | refine oU (Py.lss xe xe) ?_ | refine JO.py (Py.lss xe xe) ?_
    refine nC (JC.seq ?_)
    refine cT ?_
    refine JC.skip (JX.code (JC.seq (JC.block (sR ?_))))
    refine oM ?_
    refine oA ?_
    refine nC (JC.region ?_)
    refine JO.py (Py.fld fld258_0 xe xoff) ?_
    refine JO.py (Py.load scal253 xe xpick xrow) ?_
    refine oM ?_
    refine JO.py (Py.idxS Tryz.underlying253 siz250 xe xe (by omega) xidx xmult) ?_
    refine JO.store siz250 xe ev_const (by first | rfl | assumption) xpick xsize xnorm ?_
    refine JO.nil (JX.blockN (JX.code (JC.region ?_)))
    refine JO.py (Py.add xe ev_const wI) ?_
    refine oM ?_
    refine JO.nil ?_
    refine JX.as (A := cel b18 250 _) (A' := cel b18 250 (chs (fun j => if j < i + 1 then 1024 else 0) pn)) xpick (cel_eq (chs_half pn i)) ?_
    refine JX.loop (i + 1) (by omega) (by omega) xag xpkE
  · skip
    refine sR ?_
    first | refine oD (Py.lss xe xe) ?_ | refine oU (Py.lss xe xe) ?_ | refine JO.py (Py.lss xe xe) ?_
    refine nC (JC.seq ?_)
    refine cF ?_
    refine JC.exit (JX.exit (JX.exit (JX.blockE (JX.code (sR ?_)))))
    first | refine JO.py (Py.loadA agg258 xe xpick (Nat.le_of_ble_eq_true rfl) rfl) ?_ | refine JO.py (Py.loadA agg258 xe xpick (by first | assumption | (simp; omega)) rfl) ?_
    refine JO.storeW siz258 xe xe (by first | rfl | (simp; done) | assumption | fail) (by first | (simp [Value.oneCell']; done) | assumption | fail) xpick (by first | rfl | (simp; done) | assumption | fail) ?_
    refine nC (JC.ret ?_)
    refine JX.as (A := cel b18 250 _) (A' := cel b18 250 (chs half pn)) xpick (cel_eq (chs_congr fun j hj => by rw [if_pos (by omega)])) ?_
    refine JX.endC1 (vs := #[.slice (some ⟨b18, 0, none⟩) pn pn, .int .u8 (n : Int)]) (Or.inl rfl) (b18) Tryz.results115 xe agg258 xpick (Nat.le_of_ble_eq_true rfl) (rfl) rfl xpkE
set_option maxRecDepth 100000 in
theorem mkTree_con (G : Gst) (n : Nat) (hn : 1 ≤ n ∧ n ≤ 20) : Con Tryz.prog G 108 #[.int .i64 (n : Int)] [] (fun b : Nat => .agg #[.slice (some ⟨b, 0, none⟩) (2 ^ n) (2 ^ n), .int .u8 (n : Int)]) (fun b => [cel b 250 (chs half (2 ^ n))]) := by
  refine Con.intro Tryz.func108 rfl (by kernel_rfl) Tryz.ntmps108 (Nat.le_of_ble_eq_true rfl) ?_
  intro F
  show JC _ _ _ _ _ _ [(0, _)] _ [_]
  refine sR ?_
  refine JO.allocA zer260 ?_; intro b2
  refine nC (sR ?_)
  refine oM ?_
  refine JO.call (Evs.cons xe Evs.nil) (probTree_con G n hn) xpkE ?_
  rintro b
  show JO _ _ _ _ _ _ _ ((4, _) :: _) _ (_ :: _ :: _)
  refine JO.py (Py.to (v := .agg (putAll #[Value.slice none 0 0, Value.int IntKind.u8 0] 0 #[Value.slice (some ⟨b, 0, none⟩) (2 ^ n) (2 ^ n), Value.int IntKind.u8 (n : Int)].toList)) (Py.build bld260 (Pts.cons xe Pts.nil) xfl) (v' := .agg #[.slice (some ⟨b, 0, none⟩) (2 ^ n) (2 ^ n), .int .u8 (n : Int)]) rfl) ?_
  refine JO.storeW siz260 xe xe (by first | rfl | (simp; done) | assumption | fail) (by first | (simp [Value.oneCell']; done) | assumption | fail) xpick (by first | rfl | (simp; done) | assumption | fail) ?_
  refine nC (JC.ret ?_)
  refine JX.endC1 (vs := #[.slice (some ⟨b, 0, none⟩) (2 ^ n) (2 ^ n), .int .u8 (n : Int)]) (Or.inl rfl) (b) Tryz.results108 xe agg260 xpick (Nat.le_of_ble_eq_true rfl) (rfl) rfl xpkE
set_option maxRecDepth 100000 in
theorem mkRev_con (G : Gst) (n : Nat) (hn : 1 ≤ n ∧ n ≤ 20) {ni : Int} (hni : ni = (n : Int)) : Con Tryz.prog G 109 #[.int .i64 ni] [] (fun b : Nat => .agg #[.slice (some ⟨b, 0, none⟩) (2 ^ n) (2 ^ n), .int .u8 (n : Int)]) (fun b => [cel b 250 (chs half (2 ^ n))]) := by
  subst hni
  refine Con.intro Tryz.func109 rfl (by kernel_rfl) Tryz.ntmps109 (Nat.le_of_ble_eq_true rfl) ?_
  intro F
  show JC _ _ _ _ _ _ [(0, _)] _ [_]
  refine sR ?_
  refine JO.allocA zer265 ?_; intro b2
  refine nC (sR ?_)
  refine oM ?_
  refine JO.call (Evs.cons xe Evs.nil) (probTree_con G n hn) xpkE ?_
  rintro b
  show JO _ _ _ _ _ _ _ ((4, _) :: _) _ (_ :: _ :: _)
  refine JO.py (Py.to (v := .agg (putAll #[Value.slice none 0 0, Value.int IntKind.u8 0] 0 #[Value.slice (some ⟨b, 0, none⟩) (2 ^ n) (2 ^ n), Value.int IntKind.u8 (n : Int)].toList)) (Py.build bld265 (Pts.cons xe Pts.nil) xfl) (v' := .agg #[.slice (some ⟨b, 0, none⟩) (2 ^ n) (2 ^ n), .int .u8 (n : Int)]) rfl) ?_
  refine JO.storeW siz265 xe xe (by first | rfl | (simp; done) | assumption | fail) (by first | (simp [Value.oneCell']; done) | assumption | fail) xpick (by first | rfl | (simp; done) | assumption | fail) ?_
  refine nC (JC.ret ?_)
  refine JX.endC1 (vs := #[.slice (some ⟨b, 0, none⟩) (2 ^ n) (2 ^ n), .int .u8 (n : Int)]) (Or.inl rfl) (b) Tryz.results109 xe agg265 xpick (Nat.le_of_ble_eq_true rfl) (rfl) rfl xpkE
/-- Cells by their places. -/
def fa (f : Nat → Value) : Array Value := Array.ofFn (n := 608) fun i => f i.val
theorem fa_size (f : Nat → Value) : (fa f).size = 608 := by simp [fa]
theorem fa_get {f : Nat → Value} {i : Nat} (h : i < 608) : (fa f)[i]? = some (f i) := by simp [fa, h]
theorem fa_set {f : Nat → Value} {k : Nat} {v : Value} : (fa f).setIfInBounds k v = fa fun j => if j = k then v else f j := by
  apply Array.ext_getElem?
  intro i
  simp only [fa, Array.getElem?_setIfInBounds, Array.getElem?_ofFn, Array.size_ofFn]
  by_cases hi : i < 608
  · by_cases h : k = i
    · subst h; simp [hi]
    · simp [h, hi, show ¬ i = k from fun e => h e.symm]
  · by_cases h : k = i
    · subst h; simp [hi]
    · simp [h, hi]
theorem fa_congr {f g : Nat → Value} (h : ∀ j, j < 608 → f j = g j) : fa f = fa g := by
  unfold fa
  congr 1
  funext i
  exact h i.val i.isLt
theorem fa_step {f : Nat → Value} {o i : Nat} : (fa fun j => if o ≤ j ∧ j < o + i then vu16 1024 else f j).setIfInBounds (o + i) (.int .u16 1024) = fa fun j => if o ≤ j ∧ j < o + (i + 1) then vu16 1024 else f j := by
  rw [fa_set]
  exact fa_congr fun j _ => by
    by_cases e : j = o + i
    · rw [if_pos e, if_pos (by omega)]; rfl
    · rw [if_neg e]
      by_cases e2 : o ≤ j ∧ j < o + i
      · rw [if_pos e2, if_pos (by omega)]
      · rw [if_neg e2, if_neg (by omega)]
attribute [irreducible] fa
set_option maxRecDepth 100000 in
theorem initProb_con (G : Gst) (sb o m mc : Nat) (f : Nat → Value) (hm : o + m ≤ 608) : Con Tryz.prog G 100 #[.slice (some ⟨sb, o, none⟩) m mc] [cel sb 270 (fa f)] (fun _ : Unit => .tuple #[]) (fun _ => [cel sb 270 (fa fun j => if o ≤ j ∧ j < o + m then vu16 1024 else f j)]) := by
  refine Con.intro Tryz.func100 rfl (by kernel_rfl) Tryz.ntmps100 (Nat.le_of_ble_eq_true rfl) ?_
  intro F
  show JC _ _ _ _ _ _ [(0, _)] _ [_, _]
  refine sR ?_
  refine oM ?_
  refine JO.py (Py.lenS Tryz.underlying253 xe) ?_
  refine JO.py (Py.move ev_const) ?_
  refine nC (JC.block ?_)
  refine JC.loop (ι := Nat) (fun i => i ≤ m) (fun i => [(0, .slice (some ⟨sb, o, none⟩) m mc), (4, .int .i64 m), (5, .int .i64 i)]) (fun i => [cel sb 270 (fa fun j => if o ≤ j ∧ j < o + i then vu16 1024 else f j), F]) (fun i => m - i) 0 (Nat.zero_le _) xag (by rw [fa_congr (f := fun j => if o ≤ j ∧ j < o + 0 then vu16 1024 else f j) (g := f) fun j _ => if_neg (by omega)]; exact xpkE) ?_
  rintro i base' hi
  have hi : i ≤ m := hi
  by_cases h : i < m
  · skip
    have hsz : o + i < (fa fun j => if o ≤ j ∧ j < o + i then vu16 1024 else f j).size := by rw [fa_size]; omega
    refine sR ?_
    first | refine oD (Py.lss xe xe) ?_ | refine oU (Py.lss xe xe) ?_ | refine JO.py (Py.lss xe xe) ?_
    refine nC (JC.seq ?_)
    refine cT ?_
    refine JC.skip (JX.code (JC.seq (JC.block (sR ?_))))
    refine oM ?_
    refine oA ?_
    refine nC (JC.region ?_)
    refine oM ?_
    refine oM ?_
    refine JO.py (Py.idxS Tryz.underlying253 siz250 xe xe (by omega) xidx xmult) ?_
    refine JO.store siz250 xe ev_const (by first | rfl | assumption) xpick xsize xnorm ?_
    refine JO.nil (JX.blockN (JX.code (JC.region ?_)))
    refine JO.py (Py.add xe ev_const wI) ?_
    refine oM ?_
    refine JO.nil ?_
    refine JX.as (A := cel sb 270 _) (A' := cel sb 270 (fa fun j => if o ≤ j ∧ j < o + (i + 1) then vu16 1024 else f j)) xpick (cel_eq (by exact fa_step)) ?_
    refine JX.loop (i + 1) (by omega) (by omega) xag xpkE
  · skip
    obtain rfl : i = m := by omega
    refine sR ?_
    first | refine oD (Py.lss xe xe) ?_ | refine oU (Py.lss xe xe) ?_ | refine JO.py (Py.lss xe xe) ?_
    refine nC (JC.seq ?_)
    refine cF ?_
    refine JC.exit (JX.exit (JX.exit (JX.blockE ?_)))
    refine JX.end0 (Or.inr rfl) (()) Tryz.results100 rfl xpkE
end Go.Proofs.YtfpepghmbeoanaaGreatDoor
end

section
open Go Go.RowKit
namespace Go.Proofs.YtfpepghmbeoanaaGreatDoor
open Lz
theorem growD {G : Gst} {w : World} {T : Tab} {M : PM} {r : List Asn} {id b n : Nat} {f : Nat → Nat} (hf : f = M id) (hid : id ∉ T.ids) (hw : Sat G w (cel b 250 (chs f n) :: ChD T M :: r)) : Sat G w (ChD (T.add id b n) M :: r) :=
  hw.of fun hs => by
    subst hf
    refine stars_flat.2 ?_
    have e : (T.add id b n).ids.map ((T.add id b n).rowD M) = cel b 250 (chs (M id) n) :: T.ids.map (T.rowD M) := by
      show (T.add id b n).rowD M id :: T.ids.map ((T.add id b n).rowD M) = _
      have e1 : (T.add id b n).rowD M id = cel b 250 (chs (M id) n) := by simp [Tab.rowD, Tab.add]
      rw [e1]
      congr 1
      apply List.map_congr_left
      intro j hj
      have : j ≠ id := fun e => hid (e ▸ hj)
      simp [Tab.rowD, Tab.add, this]
    rw [e]
    exact stars_tail (fun h hh => stars_flat.1 hh) hs
section
variable {P : Program} {G : Gst} {ops : Array Oper} {Q : Exit → Act → World → Prop} {n' : Nat} {base : Nat → Value} {L : List (Nat × Value)} {D : List Deferred} {As r r' : List Asn} {T : Tab} {M : PM} {b n : Nat} {f : Nat → Nat}
theorem JX.growD {x : Exit} (id : Nat) (q : Pick (cel b 250 (chs f n)) As r) (q2 : Pick (ChD T M) r r') (hf : f = M id) (hid : id ∉ T.ids)
    (k : JX G Q x n' base L D (ChD (T.add id b n) M :: r')) : JX G Q x n' base L D As := ⟨fun w hw => k.run w (Proofs.YtfpepghmbeoanaaGreatDoor.growD hf hid ((hw.picks (.cons q (.cons q2 .nil)))))⟩
end
/-- Rows in a sequence: which they are, and how many bits they tell. -/
structure Sq where
  id : Nat → Nat
  bits : Nat → Nat
def sqCell (Q : Sq) (T : Tab) (j : Nat) : Value := if j % 2 = 0 then T.sl (Q.id (j / 2)) else .int .u8 (Q.bits (j / 2) : Nat)
def gC (Q : Sq) (T : Tab) (e k : Nat) (f : Nat → Value) (j : Nat) : Value := if e ≤ j ∧ j < e + 2 * k then sqCell Q T (j - e) else f j
structure NewQ (Q : Sq) (T : Tab) (k : Nat) (T' : Tab) : Prop where
  ok : T'.Ok
  ext : Ext T T'
  ids : ∀ id ∈ T'.ids, id ∈ T.ids ∨ ∃ r, r < k ∧ id = Q.id r
  has : ∀ r, r < k → Q.id r ∈ T'.ids ∧ T'.len (Q.id r) = 2 ^ Q.bits r
structure SqOk (Q : Sq) (N : Nat) (T : Tab) : Prop where
  inj : ∀ r s, r < N → s < N → Q.id r = Q.id s → r = s
  fr : ∀ r, r < N → Q.id r ∉ T.ids
theorem NewQ.start {Q : Sq} {T : Tab} (h : T.Ok) : NewQ Q T 0 T := ⟨h, Ext.refl _, fun _ h => .inl h, fun r h => absurd h (by omega)⟩
theorem NewQ.fresh {Q : Sq} {T T' : Tab} {N k : Nat} (hQ : SqOk Q N T) (h : NewQ Q T k T') (hk : k < N) : Q.id k ∉ T'.ids := fun hm => by
  rcases h.ids _ hm with h1 | ⟨r, hr, e⟩
  · exact hQ.fr k hk h1
  · have := hQ.inj k r hk (by omega) e; omega
theorem NewQ.step {Q : Sq} {T T' : Tab} {N k : Nat} (hQ : SqOk Q N T) (h : NewQ Q T k T') (hk : k < N) (b : Nat) : NewQ Q T (k + 1) (T'.add (Q.id k) b (2 ^ Q.bits k)) := by
  have n1 := h.fresh hQ hk
  have x : Ext T' (T'.add (Q.id k) b (2 ^ Q.bits k)) := Ext.add n1
  refine ⟨h.ok.add n1, h.ext.trans x, fun id hid => ?_, fun r hr => ?_⟩
  · rcases List.mem_cons.1 hid with rfl | hm
    · exact .inr ⟨k, by omega, rfl⟩
    · rcases h.ids _ hm with h1 | ⟨r, hr, e⟩
      · exact .inl h1
      · exact .inr ⟨r, by omega, e⟩
  · by_cases e : r = k
    · subst e; exact ⟨Tab.add_mem, Tab.add_len⟩
    · have := h.has r (by omega)
      exact ⟨x.ids _ this.1, (x.len _ this.1).trans this.2⟩
theorem NewQ.cells {Q : Sq} {T T' : Tab} {N k : Nat} (hQ : SqOk Q N T) (h : NewQ Q T k T') (hk : k < N) (b e : Nat) (f : Nat → Value) :
    putAll (fa (gC Q T' e k f)) (e + 2 * k) [.slice (some ⟨b, 0, none⟩) (2 ^ Q.bits k) (2 ^ Q.bits k), .int .u8 (Q.bits k : Nat)] = fa (gC Q (T'.add (Q.id k) b (2 ^ Q.bits k)) e (k + 1) f) := by
  have n1 := h.fresh hQ hk
  have x : Ext T' (T'.add (Q.id k) b (2 ^ Q.bits k)) := Ext.add n1
  unfold putAll putAll putAll
  rw [fa_set, fa_set]
  refine fa_congr fun j _ => ?_
  unfold gC
  by_cases e1 : j = e + 2 * k + 1
  · rw [if_pos e1, if_pos (by omega)]
    unfold sqCell
    rw [if_neg (by omega), show (j - e) / 2 = k by omega]
  · rw [if_neg e1]
    by_cases e2 : j = e + 2 * k
    · rw [if_pos e2, if_pos (by omega)]
      unfold sqCell
      rw [if_pos (by omega), show (j - e) / 2 = k by omega, Tab.add_sl]
    · rw [if_neg e2]
      by_cases e3 : e ≤ j ∧ j < e + 2 * k
      · rw [if_pos e3, if_pos (by omega)]
        unfold sqCell
        by_cases e4 : (j - e) % 2 = 0
        · rw [if_pos e4, if_pos e4, x.sl (h.has _ (by omega)).1]
        · rw [if_neg e4, if_neg e4]
      · rw [if_neg e3, if_neg (by omega)]
theorem gC_zero (Q : Sq) (T : Tab) (e : Nat) (f : Nat → Value) : fa (gC Q T e 0 f) = fa f := fa_congr fun j _ => by unfold gC; rw [if_neg (by omega)]
def lenSq (I : Lids) : Sq := ⟨fun k => if k < 16 then I.l + k else if k < 32 then I.m + (k - 16) else I.h, fun k => if k < 32 then 3 else 8⟩
def distSq : Sq := ⟨fun k => if k < 4 then 6 + k else if k < 14 then 7 + k else 10, fun k => if k < 4 then 6 else if k < 14 then k / 2 - 1 else 4⟩
/-- The choice's two chances. -/
def chC (o : Nat) (f : Nat → Value) (j : Nat) : Value := if o ≤ j ∧ j < o + 2 then vu16 1024 else f j
set_option maxRecDepth 100000 in
set_option maxHeartbeats 2000000 in
theorem lenInit_con (G : Gst) (T : Tab) (hT : T.Ok) (I : Lids) (hQ : SqOk (lenSq I) 33 T) (sb o : Nat) (ho : o + 68 ≤ 608) (f : Nat → Value) :
    Con Tryz.prog G 102 #[.pointer (some ⟨sb, o, none⟩)] [cel sb 270 (fa f), ChD T M0] (fun _ : {T' : Tab // NewQ (lenSq I) T 33 T'} => .tuple #[]) (fun T' => [cel sb 270 (fa (gC (lenSq I) T'.1 (o + 2) 33 (chC o f))), ChD T'.1 M0]) := by
  refine Con.intro Tryz.func102 rfl (by kernel_rfl) Tryz.ntmps102 (Nat.le_of_ble_eq_true rfl) ?_
  intro F
  show JC _ _ _ _ _ _ [(0, _)] _ [_, _, _]
  refine JC.seq (sR ?_)
  refine JO.py (Py.move ev_const) ?_
  refine nC (JC.block ?_)
  refine JC.loop (ι := Nat) (fun i => i ≤ 2) (fun i => [(0, .pointer (some ⟨sb, o, none⟩)), (5, .int .i64 i)]) (fun i => [cel sb 270 (fa fun j => if o ≤ j ∧ j < o + i then vu16 1024 else f j), ChD T M0, F]) (fun i => 2 - i) 0 (Nat.zero_le _) xag (by rw [fa_congr (f := fun j => if o ≤ j ∧ j < o + 0 then vu16 1024 else f j) (g := f) fun j _ => if_neg (by omega)]; exact xpkE) ?_
  rintro i base' hi
  have hi : i ≤ 2 := hi
  by_cases h : i < 2
  · skip
    have hsz : o + i < (fa fun j => if o ≤ j ∧ j < o + i then vu16 1024 else f j).size := by rw [fa_size]; omega
    refine sR ?_
    first | refine oD (Py.lss xe ev_const) ?_ | refine oU (Py.lss xe ev_const) ?_ | refine JO.py (Py.lss xe ev_const) ?_
    refine nC (JC.seq ?_)
    refine cT ?_
    refine JC.skip (JX.code (JC.seq (JC.block (sR ?_))))
    refine oM ?_
    refine oA ?_
    refine nC (JC.region ?_)
    refine oM ?_
    refine oM ?_
    refine JO.py (Py.nil xe) ?_
    refine JO.py (Py.fld fld263_0 xe xoff) ?_
    refine JO.py (Py.idxA Tryz.underlying256 siz250 xe xe (by omega) xidx xmult) ?_
    refine JO.store siz250 xe ev_const (by first | rfl | assumption) xpick xsize xnorm ?_
    refine JO.nil (JX.blockN (JX.code (JC.region ?_)))
    refine JO.py (Py.add xe ev_const wI) ?_
    refine oM ?_
    refine JO.nil ?_
    refine JX.as (A := cel sb 270 _) (A' := cel sb 270 (fa fun j => if o ≤ j ∧ j < o + (i + 1) then vu16 1024 else f j)) xpick (cel_eq (by exact fa_step)) ?_
    refine JX.loop (i + 1) (by omega) (by omega) xag xpkE
  · skip
    obtain rfl : i = 2 := by omega
    refine sR ?_
    first | refine oD (Py.lss xe ev_const) ?_ | refine oU (Py.lss xe ev_const) ?_ | refine JO.py (Py.lss xe ev_const) ?_
    refine nC (JC.seq ?_)
    refine cF ?_
    refine JC.exit (JX.exit (JX.exit (JX.blockE (JX.code (JC.seq (sR ?_))))))
    refine JO.py (Py.move ev_const) ?_
    refine nC (JC.block ?_)
    refine JC.as (A := cel sb 270 _) (A' := cel sb 270 (fa (gC (lenSq I) T (o + 2) 0 (chC o f)))) xpick (cel_eq (by exact (gC_zero _ _ _ _).symm)) ?_
    refine JC.loop (ι := Nat × Tab) (fun x => x.1 ≤ 16 ∧ NewQ (lenSq I) T x.1 x.2) (fun x => [(0, .pointer (some ⟨sb, o, none⟩)), (14, .int .i64 x.1)]) (fun x => [cel sb 270 (fa (gC (lenSq I) x.2 (o + 2) x.1 (chC o f))), ChD x.2 M0, F]) (fun x => 16 - x.1) (0, T) ⟨Nat.zero_le _, NewQ.start hT⟩ xag xpkE ?_
    rintro ⟨i, T1⟩ base2 ⟨hi, hN⟩
    dsimp only at hi hN ⊢
    by_cases h : i < 16
    · skip
      have hid : (lenSq I).bits i = 3 := by unfold lenSq; exact if_pos (by omega)
      have hst := hN.step hQ (k := i) (by omega)
      have hce := hN.cells hQ (k := i) (by omega)
      have hfr := hN.fresh hQ (k := i) (by omega)
      rw [hid] at hst hce
      refine sR ?_
      first | refine oD (Py.lss xe ev_const) ?_ | refine oU (Py.lss xe ev_const) ?_ | refine JO.py (Py.lss xe ev_const) ?_
      refine nC (JC.seq ?_)
      refine cT ?_
      refine JC.skip (JX.code (JC.seq (JC.block (sR ?_))))
      refine oM ?_
      refine oA ?_
      refine nC ?_
      refine JC.regionM [(0, true), (1, true), (3, true), (4, true), (2, false), (5, true), (6, false)] mixed (by kernel_rfl) ?_
      refine JM.py ao ⟨fun _ => Py.move xe⟩ ?_
      refine JM.py ao ⟨fun _ => Py.move xe⟩ ?_
      refine JM.py ao ⟨fun _ => Py.nil xe⟩ ?_
      refine JM.py ao ⟨fun _ => Py.fld fld263_1 xe xoff⟩ ?_
      refine JM.eff ao ?_
      refine JO.call (Evs.cons ev_const Evs.nil) (mkTree_con G 3 (by decide)) xpkE ?_
      rintro b
      show JO _ _ _ _ _ _ _ ((19, _) :: _) _ (_ :: _ :: _)
      refine JO.nil ?_
      refine JX.mix Kept.nil ?_
      refine JM.py ao ⟨fun _ => Py.idxA (j := i) Tryz.underlying261 siz260 xe xe (by omega) (by omega) xmult⟩ ?_
      refine JM.eff ao ?_
      refine JO.storeB (cs' := fa (gC (lenSq I) (T1.add ((lenSq I).id i) b (2 ^ 3)) (o + 2) (i + 1) (chC o f))) siz260 xe xe (by exact rfl) (by simp [Value.oneCell']) xpick (by rw [fa_size]; simp; omega) (by rw [Nat.mul_comm i 2]; exact hce b (o + 2) (chC o f)) ?_
      refine JO.nil ?_
      refine JX.mix Kept.nil ?_
      refine JM.nil (JX.blockN (JX.code (JC.region ?_)))
      refine JO.py (Py.add xe ev_const wI) ?_
      refine oM ?_
      refine JO.nil ?_
      refine JX.growD (M := M0) (f := half) (b := b) ((lenSq I).id i) xpick xpick rfl hfr ?_
      refine JX.loop (i + 1, T1.add ((lenSq I).id i) b (2 ^ 3)) ⟨by dsimp only; omega, hst b⟩ (by dsimp only; omega) xag xpkE
    · skip
      obtain rfl : i = 16 := by omega
      refine sR ?_
      first | refine oD (Py.lss xe ev_const) ?_ | refine oU (Py.lss xe ev_const) ?_ | refine JO.py (Py.lss xe ev_const) ?_
      refine nC (JC.seq ?_)
      refine cF ?_
      refine JC.exit (JX.exit (JX.exit (JX.blockE (JX.code (JC.seq (sR ?_))))))
      refine JO.py (Py.move ev_const) ?_
      refine nC (JC.block ?_)
      refine JC.loop (ι := Nat × Tab) (fun x => x.1 ≤ 16 ∧ NewQ (lenSq I) T (16 + x.1) x.2) (fun x => [(0, .pointer (some ⟨sb, o, none⟩)), (24, .int .i64 x.1)]) (fun x => [cel sb 270 (fa (gC (lenSq I) x.2 (o + 2) (16 + x.1) (chC o f))), ChD x.2 M0, F]) (fun x => 16 - x.1) (0, T1) ⟨Nat.zero_le _, hN⟩ xag xpkE ?_
      rintro ⟨i, T2⟩ base2 ⟨hi, hN⟩
      dsimp only at hi hN ⊢
      by_cases h : i < 16
      · skip
        have hid : (lenSq I).bits (16 + i) = 3 := by unfold lenSq; exact if_pos (by omega)
        have hst := hN.step hQ (k := 16 + i) (by omega)
        have hce := hN.cells hQ (k := 16 + i) (by omega)
        have hfr := hN.fresh hQ (k := 16 + i) (by omega)
        rw [hid] at hst hce
        refine sR ?_
        first | refine oD (Py.lss xe ev_const) ?_ | refine oU (Py.lss xe ev_const) ?_ | refine JO.py (Py.lss xe ev_const) ?_
        refine nC (JC.seq ?_)
        refine cT ?_
        refine JC.skip (JX.code (JC.seq (JC.block (sR ?_))))
        refine oM ?_
        refine oA ?_
        refine nC ?_
        refine JC.regionM [(0, true), (1, true), (3, true), (4, true), (2, false), (5, true), (6, false)] mixed (by kernel_rfl) ?_
        refine JM.py ao ⟨fun _ => Py.move xe⟩ ?_
        refine JM.py ao ⟨fun _ => Py.move xe⟩ ?_
        refine JM.py ao ⟨fun _ => Py.nil xe⟩ ?_
        refine JM.py ao ⟨fun _ => Py.fld fld263_2 xe xoff⟩ ?_
        refine JM.eff ao ?_
        refine JO.call (Evs.cons ev_const Evs.nil) (mkTree_con G 3 (by decide)) xpkE ?_
        rintro b
        show JO _ _ _ _ _ _ _ ((29, _) :: _) _ (_ :: _ :: _)
        refine JO.nil ?_
        refine JX.mix Kept.nil ?_
        refine JM.py ao ⟨fun _ => Py.idxA (j := i) Tryz.underlying261 siz260 xe xe (by omega) (by omega) xmult⟩ ?_
        refine JM.eff ao ?_
        refine JO.storeB (cs' := fa (gC (lenSq I) (T2.add ((lenSq I).id (16 + i)) b (2 ^ 3)) (o + 2) (16 + i + 1) (chC o f))) siz260 xe xe (by exact rfl) (by simp [Value.oneCell']) xpick (by rw [fa_size]; simp; omega) (by have e := hce b (o + 2) (chC o f); rw [show o + 2 + 2 * (16 + i) = o + 34 + i * 2 by omega] at e; exact e) ?_
        refine JO.nil ?_
        refine JX.mix Kept.nil ?_
        refine JM.nil (JX.blockN (JX.code (JC.region ?_)))
        refine JO.py (Py.add xe ev_const wI) ?_
        refine oM ?_
        refine JO.nil ?_
        refine JX.growD (M := M0) (f := half) (b := b) ((lenSq I).id (16 + i)) xpick xpick rfl hfr ?_
        refine JX.loop (i + 1, T2.add ((lenSq I).id (16 + i)) b (2 ^ 3)) ⟨by dsimp only; omega, hst b⟩ (by dsimp only; omega) xag (by dsimp only; rw [← Nat.add_assoc]; exact xpkE)
      · skip
        obtain rfl : i = 16 := by omega
        have hid : (lenSq I).bits 32 = 8 := rfl
        have hst := hN.step hQ (k := 32) (by omega)
        have hce := hN.cells hQ (k := 32) (by omega)
        have hfr := hN.fresh hQ (k := 32) (by omega)
        rw [hid] at hst hce
        refine sR ?_
        first | refine oD (Py.lss xe ev_const) ?_ | refine oU (Py.lss xe ev_const) ?_ | refine JO.py (Py.lss xe ev_const) ?_
        refine nC (JC.seq ?_)
        refine cF ?_
        refine JC.exit (JX.exit (JX.exit (JX.blockE (JX.code (JC.region ?_)))))
        refine oM ?_
        refine JO.call (Evs.cons ev_const Evs.nil) (mkTree_con G 8 (by decide)) xpkE ?_
        rintro b
        show JO _ _ _ _ _ _ _ ((35, _) :: _) _ (_ :: _ :: _)
        refine JO.py (Py.nil xe) ?_
        refine JO.py (Py.fld fld263_3 xe xoff) ?_
        refine JO.storeB (cs' := fa (gC (lenSq I) (T2.add ((lenSq I).id 32) b (2 ^ 8)) (o + 2) 33 (chC o f))) siz260 xe xe (by exact rfl) (by simp [Value.oneCell']) xpick (by rw [fa_size]; simp; omega) (by exact hce b (o + 2) (chC o f)) ?_
        refine JO.nil ?_
        refine JX.growD (M := M0) (f := half) (b := b) ((lenSq I).id 32) xpick xpick rfl hfr ?_
        refine JX.end0 (Or.inr rfl) (⟨T2.add ((lenSq I).id 32) b (2 ^ 8), hst b⟩) Tryz.results102 rfl xpkE
end Go.Proofs.YtfpepghmbeoanaaGreatDoor
end

section
open Go Go.RowKit
namespace Go.Proofs.YtfpepghmbeoanaaGreatDoor
open Lz
set_option maxRecDepth 100000 in
set_option maxHeartbeats 2000000 in
theorem distInit_con (G : Gst) (T : Tab) (hT : T.Ok) (hQ : SqOk distSq 15 T) (sb o : Nat) (ho : o + 30 ≤ 608) (f : Nat → Value) :
    Con Tryz.prog G 103 #[.pointer (some ⟨sb, o, none⟩)] [cel sb 270 (fa f), ChD T M0] (fun _ : {T' : Tab // NewQ distSq T 15 T'} => .tuple #[]) (fun T' => [cel sb 270 (fa (gC distSq T'.1 o 15 f)), ChD T'.1 M0]) := by
  refine Con.intro Tryz.func103 rfl (by kernel_rfl) Tryz.ntmps103 (Nat.le_of_ble_eq_true rfl) ?_
  intro F
  show JC _ _ _ _ _ _ [(0, _)] _ [_, _, _]
  refine JC.seq (sR ?_)
  refine JO.py (Py.move ev_const) ?_
  refine nC (JC.block ?_)
  refine JC.as (A := cel sb 270 _) (A' := cel sb 270 (fa (gC distSq T o 0 f))) xpick (cel_eq (by exact (gC_zero _ _ _ _).symm)) ?_
  refine JC.loop (ι := Nat × Tab) (fun x => x.1 ≤ 4 ∧ NewQ distSq T x.1 x.2) (fun x => [(0, .pointer (some ⟨sb, o, none⟩)), (6, .int .i64 x.1)]) (fun x => [cel sb 270 (fa (gC distSq x.2 o x.1 f)), ChD x.2 M0, F]) (fun x => 4 - x.1) (0, T) ⟨Nat.zero_le _, NewQ.start hT⟩ xag xpkE ?_
  rintro ⟨i, T1⟩ base2 ⟨hi, hN⟩
  dsimp only at hi hN ⊢
  by_cases h : i < 4
  · skip
    have hid : distSq.bits i = 6 := by unfold distSq; exact if_pos (by omega)
    have hst := hN.step hQ (k := i) (by omega)
    have hce := hN.cells hQ (k := i) (by omega)
    have hfr := hN.fresh hQ (k := i) (by omega)
    rw [hid] at hst hce
    refine sR ?_
    first | refine oD (Py.lss xe ev_const) ?_ | refine oU (Py.lss xe ev_const) ?_ | refine JO.py (Py.lss xe ev_const) ?_
    refine nC (JC.seq ?_)
    refine cT ?_
    refine JC.skip (JX.code (JC.seq (JC.block (sR ?_))))
    refine oM ?_
    refine oA ?_
    refine nC ?_
    refine JC.regionM [(0, true), (1, true), (3, true), (4, true), (2, false), (5, true), (6, false)] mixed (by kernel_rfl) ?_
    refine JM.py ao ⟨fun _ => Py.move xe⟩ ?_
    refine JM.py ao ⟨fun _ => Py.move xe⟩ ?_
    refine JM.py ao ⟨fun _ => Py.nil xe⟩ ?_
    refine JM.py ao ⟨fun _ => Py.fld fld268_0 xe xoff⟩ ?_
    refine JM.eff ao ?_
    refine JO.call (Evs.cons ev_const Evs.nil) (mkTree_con G 6 (by decide)) xpkE ?_
    rintro b
    show JO _ _ _ _ _ _ _ ((11, _) :: _) _ (_ :: _ :: _)
    refine JO.nil ?_
    refine JX.mix Kept.nil ?_
    refine JM.py ao ⟨fun _ => Py.idxA (j := i) Tryz.underlying264 siz260 xe xe (by omega) (by omega) xmult⟩ ?_
    refine JM.eff ao ?_
    refine JO.storeB (cs' := fa (gC distSq (T1.add (distSq.id i) b (2 ^ 6)) o (i + 1) f)) siz260 xe xe (by exact rfl) (by simp [Value.oneCell']) xpick (by rw [fa_size]; simp; omega) (by rw [Nat.mul_comm i 2]; exact hce b o f) ?_
    refine JO.nil ?_
    refine JX.mix Kept.nil ?_
    refine JM.nil (JX.blockN (JX.code (JC.region ?_)))
    refine JO.py (Py.add xe ev_const wI) ?_
    refine oM ?_
    refine JO.nil ?_
    refine JX.growD (M := M0) (f := half) (b := b) (distSq.id i) xpick xpick rfl hfr ?_
    refine JX.loop (i + 1, T1.add (distSq.id i) b (2 ^ 6)) ⟨by dsimp only; omega, hst b⟩ (by dsimp only; omega) xag xpkE
  · skip
    obtain rfl : i = 4 := by omega
    refine sR ?_
    first | refine oD (Py.lss xe ev_const) ?_ | refine oU (Py.lss xe ev_const) ?_ | refine JO.py (Py.lss xe ev_const) ?_
    refine nC (JC.seq ?_)
    refine cF ?_
    refine JC.exit (JX.exit (JX.exit (JX.blockE (JX.code (JC.seq (sR ?_))))))
    refine JO.py (Py.move ev_const) ?_
    refine nC (JC.block ?_)
    refine JC.loop (ι := Nat × Tab) (fun x => x.1 ≤ 10 ∧ NewQ distSq T (4 + x.1) x.2) (fun x => [(0, .pointer (some ⟨sb, o, none⟩)), (16, .int .i64 x.1)]) (fun x => [cel sb 270 (fa (gC distSq x.2 o (4 + x.1) f)), ChD x.2 M0, F]) (fun x => 10 - x.1) (0, T1) ⟨Nat.zero_le _, hN⟩ xag xpkE ?_
    rintro ⟨i, T2⟩ base2 ⟨hi, hN⟩
    dsimp only at hi hN ⊢
    by_cases h : i < 10
    · skip
      obtain ⟨bi, hbi⟩ : ∃ x, (4 + i) / 2 - 1 = x := ⟨_, rfl⟩
      have hid : distSq.bits (4 + i) = bi := by
        unfold distSq
        show (if 4 + i < 4 then 6 else if 4 + i < 14 then (4 + i) / 2 - 1 else 4) = bi
        rw [if_neg (by omega), if_pos (by omega), hbi]
      have hst := hN.step hQ (k := 4 + i) (by omega)
      have hce := hN.cells hQ (k := 4 + i) (by omega)
      have hfr := hN.fresh hQ (k := 4 + i) (by omega)
      rw [hid] at hst hce
      refine sR ?_
      first | refine oD (Py.lss xe ev_const) ?_ | refine oU (Py.lss xe ev_const) ?_ | refine JO.py (Py.lss xe ev_const) ?_
      refine nC (JC.seq ?_)
      refine cT ?_
      refine JC.skip (JX.code (JC.seq (JC.block (sR ?_))))
      refine oM ?_
      refine oA ?_
      refine nC (sR ?_)
      refine oM ?_
      refine JO.py (Py.add ev_const xe wI) ?_
      refine oA ?_
      refine nC (sR ?_)
      refine oM ?_
      refine JO.py (Py.shr 1 2 xe ev_const rfl (by decide) (by decide) (by decide)) ?_
      refine JO.py (Py.sub xe ev_const wI) ?_
      refine oA ?_
      refine nC ?_
      refine JC.regionM [(0, true), (1, true), (2, true), (4, true), (5, true), (3, false), (6, true), (7, false)] mixed (by kernel_rfl) ?_
      refine JM.py ao ⟨fun _ => Py.move xe⟩ ?_
      refine JM.py ao ⟨fun _ => Py.move xe⟩ ?_
      refine JM.py ao ⟨fun _ => Py.move xe⟩ ?_
      refine JM.py ao ⟨fun _ => Py.nil xe⟩ ?_
      refine JM.py ao ⟨fun _ => Py.fld fld268_1 xe xoff⟩ ?_
      refine JM.eff ao ?_
      refine JO.call (Evs.cons xe Evs.nil) (mkRev_con G bi (by omega) (by omega)) xpkE ?_
      rintro b
      show JO _ _ _ _ _ _ _ ((27, _) :: _) _ (_ :: _ :: _)
      refine JO.nil ?_
      refine JX.mix Kept.nil ?_
      refine JM.py ao ⟨fun _ => Py.idxA (j := i) Tryz.underlying266 siz265 xe xe (by omega) (by omega) xmult⟩ ?_
      refine JM.eff ao ?_
      refine JO.storeB (cs' := fa (gC distSq (T2.add (distSq.id (4 + i)) b (2 ^ bi)) o (4 + i + 1) f)) siz265 xe xe (by exact rfl) (by simp [Value.oneCell']) xpick (by rw [fa_size]; simp; omega) (by have e := hce b o f; rw [show o + 2 * (4 + i) = o + 8 + i * 2 by omega] at e; exact e) ?_
      refine JO.nil ?_
      refine JX.mix Kept.nil ?_
      refine JM.nil (JX.blockN (JX.code (JC.region ?_)))
      refine JO.py (Py.add xe ev_const wI) ?_
      refine oM ?_
      refine JO.nil ?_
      refine JX.growD (M := M0) (f := half) (b := b) (distSq.id (4 + i)) xpick xpick rfl hfr ?_
      refine JX.loop (i + 1, T2.add (distSq.id (4 + i)) b (2 ^ bi)) ⟨by dsimp only; omega, hst b⟩ (by dsimp only; omega) xag (by dsimp only; rw [← Nat.add_assoc]; exact xpkE)
    · skip
      obtain rfl : i = 10 := by omega
      have hid : distSq.bits 14 = 4 := rfl
      have hst := hN.step hQ (k := 14) (by omega)
      have hce := hN.cells hQ (k := 14) (by omega)
      have hfr := hN.fresh hQ (k := 14) (by omega)
      rw [hid] at hst hce
      refine sR ?_
      first | refine oD (Py.lss xe ev_const) ?_ | refine oU (Py.lss xe ev_const) ?_ | refine JO.py (Py.lss xe ev_const) ?_
      refine nC (JC.seq ?_)
      refine cF ?_
      refine JC.exit (JX.exit (JX.exit (JX.blockE (JX.code (JC.region ?_)))))
      refine oM ?_
      refine JO.call (Evs.cons ev_const Evs.nil) (mkRev_con G 4 (by decide) rfl) xpkE ?_
      rintro b
      show JO _ _ _ _ _ _ _ ((33, _) :: _) _ (_ :: _ :: _)
      refine JO.py (Py.nil xe) ?_
      refine JO.py (Py.fld fld268_2 xe xoff) ?_
      refine JO.storeB (cs' := fa (gC distSq (T2.add (distSq.id 14) b (2 ^ 4)) o 15 f)) siz265 xe xe (by exact rfl) (by simp [Value.oneCell']) xpick (by rw [fa_size]; simp; omega) (by exact hce b o f) ?_
      refine JO.nil ?_
      refine JX.growD (M := M0) (f := half) (b := b) (distSq.id 14) xpick xpick rfl hfr ?_
      refine JX.end0 (Or.inr rfl) (⟨T2.add (distSq.id 14) b (2 ^ 4), hst b⟩) Tryz.results103 rfl xpkE
set_option maxRecDepth 100000 in
set_option maxHeartbeats 2000000 in
theorem litInit_con (G : Gst) (T : Tab) (hT : T.Ok) (c : Cfg) (hc : c.Ok) (hf : 21 ∉ T.ids) (sb o : Nat) (ho : o < 608) (f : Nat → Value) :
    Con Tryz.prog G 101 #[.pointer (some ⟨sb, o, none⟩), .int .i64 (c.lc : Int), .int .i64 (c.lp : Int)] [cel sb 270 (fa f), ChD T M0] (fun _ : {T' : Tab // T'.Ok ∧ Ext T T' ∧ (∀ id ∈ T'.ids, id ∈ T.ids ∨ id = 21) ∧ 21 ∈ T'.ids ∧ T'.len 21 = 768 * 2 ^ (c.lc + c.lp)} => .tuple #[]) (fun T' => [cel sb 270 (fa fun j => if j = o then T'.1.sl 21 else f j), ChD T'.1 M0]) := by
  have hll : 768 * 2 ^ (c.lc + c.lp) ≤ 768 * 2 ^ 4 := Nat.mul_le_mul_left _ (Nat.pow_le_pow_right (by decide) hc.l)
  have hl4 := hc.l
  have hli : (768 : Int) * 2 ^ (c.lc + c.lp) = ((768 * 2 ^ (c.lc + c.lp) : Nat) : Int) := by push_cast; rfl
  obtain ⟨nl, hnl⟩ : ∃ x, 768 * 2 ^ (c.lc + c.lp) = x := ⟨_, rfl⟩
  rw [hnl] at hll hli ⊢
  have hsz0 : o < (fa f).size := by rw [fa_size]; exact ho
  refine Con.intro Tryz.func101 rfl (by kernel_rfl) Tryz.ntmps101 (Nat.le_of_ble_eq_true rfl) ?_
  intro F
  show JC _ _ _ _ _ _ [(0, _), (1, _), (2, _)] _ [_, _, _]
  refine JC.seq (JC.block (sR ?_))
  refine oM ?_
  first | refine oD (Py.leq ev_const xe) ?_ | refine oU (Py.leq ev_const xe) ?_ | refine JO.py (Py.leq ev_const xe) ?_
  refine oM ?_
  first | (refine gT ?_; (refine oM ?_)) | refine kF ?_
  first | (refine gT ?_; (first | refine oD (Py.leq xe ev_const) ?_ | refine oU (Py.leq xe ev_const) ?_ | refine JO.py (Py.leq xe ev_const) ?_)) | refine kF ?_
  first | refine JO.py (Py.pickT xe xe) ?_ | refine JO.py (Py.pickF xe ev_const) ?_
  refine JO.py (Py.not xe (by first | with_reducible exact not_t | with_reducible exact not_f | exact rfl)) ?_
  refine oA ?_
  refine nC ?_
  refine cF ?_
  refine sR ?_
  refine oM ?_
  first | refine oD (Py.leq ev_const xe) ?_ | refine oU (Py.leq ev_const xe) ?_ | refine JO.py (Py.leq ev_const xe) ?_
  refine oM ?_
  first | (refine gT ?_; (refine oM ?_)) | refine kF ?_
  first | (refine gT ?_; (first | refine oD (Py.leq xe ev_const) ?_ | refine oU (Py.leq xe ev_const) ?_ | refine JO.py (Py.leq xe ev_const) ?_)) | refine kF ?_
  first | refine JO.py (Py.pickT xe xe) ?_ | refine JO.py (Py.pickF xe ev_const) ?_
  refine JO.py (Py.not xe (by first | with_reducible exact not_t | with_reducible exact not_f | exact rfl)) ?_
  refine oA ?_
  refine nC ?_
  refine cF ?_
  refine JC.skip (JX.blockN (JX.code (sR ?_)))
  refine oM ?_
  refine oM ?_
  refine oM ?_
  refine JO.py (Py.add xe xe wI) ?_
  first | refine JO.py (Py.conv cnv3_67 xe (w_u64 (by omega))) ?_ | refine JO.py (Py.conv cnv3_67 xe (m_u64 _)) ?_
  refine JO.py (Py.shlN (c.lc + c.lp) (c := ((nl : Nat) : Int)) ev_const xe (by omega) (by simp only [IntKind.bits]; omega) (by rw [hli]; exact w_i64 (by omega))) ?_
  refine JO.mkslice (m := nl) (c := nl) Tryz.underlying253 elm250 xe xe rfl rfl (by omega) (by omega) (by omega) ?_
  intro b31
  refine JO.py (Py.nil xe) ?_
  refine JO.py (Py.fld fld255_0 xe xoff) ?_
  refine JO.store siz253 xe xe (by first | rfl | assumption) xpick xsize xnorm ?_
  refine nC (JC.seq ?_)
  have hget : (fa fun j => if j = o then Value.slice (some ⟨b31, 0, none⟩) nl nl else f j)[o]? = some (.slice (some ⟨b31, 0, none⟩) nl nl) := by rw [fa_get ho, if_pos rfl]
  refine JC.as (A := cel sb 270 _) (A' := cel sb 270 (fa fun j => if j = o then Value.slice (some ⟨b31, 0, none⟩) nl nl else f j)) xpick (cel_eq (by exact fa_set)) ?_
  refine JC.region ?_
  refine oM ?_
  refine JO.py (Py.nil xe) ?_
  refine JO.py (Py.fld fld255_0 xe xoff) ?_
  refine JO.py (Py.load scal253 xe xpick xrow) ?_
  refine JO.py (Py.lenS Tryz.underlying253 xe) ?_
  refine JO.py (Py.move ev_const) ?_
  refine nC (JC.block ?_)
  refine JC.as (A := cel b31 250 _) (A' := cel b31 250 (chs (fun j => if j < 0 then 1024 else 0) nl)) xpick (cel_eq (chs_new nl)) ?_
  refine JC.loop (ι := Nat) (fun i => i ≤ nl) (fun i => [(0, .pointer (some ⟨sb, o, none⟩)), (38, .int .i64 nl), (39, .int .i64 i)]) (fun i => [cel b31 250 (chs (fun j => if j < i then 1024 else 0) nl), cel sb 270 (fa fun j => if j = o then Value.slice (some ⟨b31, 0, none⟩) nl nl else f j), ChD T M0, F]) (fun i => nl - i) 0 (Nat.zero_le _) xag xpkE ?_
  rintro i base' hi
  have hi : i ≤ nl := hi
  by_cases h : i < nl
  · skip
    have hsz : i < (chs (fun j => if j < i then 1024 else 0) nl).size := by rw [chs_size]; exact h
    refine sR ?_
    first | refine oD (Py.lss xe xe) ?_ | refine oU (Py.lss xe xe) ?_ | refine JO.py (Py.lss xe xe) ?_
    refine nC (JC.seq ?_)
    refine cT ?_
    refine JC.skip (JX.code (JC.seq (JC.block (sR ?_))))
    refine oM ?_
    refine oA ?_
    refine nC (JC.region ?_)
    refine oM ?_
    refine JO.py (Py.nil xe) ?_
    refine JO.py (Py.fld fld255_0 xe xoff) ?_
    refine JO.py (Py.load scal253 xe xpick xrow) ?_
    refine oM ?_
    refine JO.py (Py.idxS Tryz.underlying253 siz250 xe xe (by omega) xidx xmult) ?_
    refine JO.store siz250 xe ev_const (by first | rfl | assumption) xpick xsize xnorm ?_
    refine JO.nil (JX.blockN (JX.code (JC.region ?_)))
    refine JO.py (Py.add xe ev_const wI) ?_
    refine oM ?_
    refine JO.nil ?_
    refine JX.as (A := cel b31 250 _) (A' := cel b31 250 (chs (fun j => if j < i + 1 then 1024 else 0) nl)) xpick (cel_eq (chs_half nl i)) ?_
    refine JX.loop (i + 1) (by omega) (by omega) xag xpkE
  · skip
    refine sR ?_
    first | refine oD (Py.lss xe xe) ?_ | refine oU (Py.lss xe xe) ?_ | refine JO.py (Py.lss xe xe) ?_
    refine nC (JC.seq ?_)
    refine cF ?_
    refine JC.exit (JX.exit (JX.exit (JX.blockE ?_)))
    refine JX.as (A := cel b31 250 _) (A' := cel b31 250 (chs half nl)) xpick (cel_eq (chs_congr fun j hj => by rw [if_pos (by omega)])) ?_
    refine JX.growD (M := M0) (f := half) (b := b31) 21 xpick xpick rfl hf ?_
    have e1 : Value.slice (some ⟨b31, 0, none⟩) nl nl = (T.add 21 b31 nl).sl 21 := by rw [Tab.add_sl]
    rw [e1]
    refine JX.end0 (Or.inr rfl) (⟨T.add 21 b31 nl, hT.add hf, Ext.add hf, fun id hid => (List.mem_cons.1 hid).symm, Tab.add_mem, Tab.add_len⟩) Tryz.results101 rfl xpkE
end Go.Proofs.YtfpepghmbeoanaaGreatDoor
end

section
open Go Go.RowKit
namespace Go.Proofs.YtfpepghmbeoanaaGreatDoor
open Lz
/-- A state of nothing. -/
def zC (j : Nat) : Value :=
  if j < 4 then .int .u32 0 else if j < 436 then .int .u16 0 else if j < 437 then .slice none 0 0 else if j < 439 then .int .u16 0
  else if j < 505 then (if j % 2 = 1 then .slice none 0 0 else .int .u8 0) else if j < 507 then .int .u16 0
  else if j < 603 then (if j % 2 = 1 then .slice none 0 0 else .int .u8 0) else if j < 605 then .int .u32 0 else .int .i64 0
theorem bld270 : Bld Tryz.prog 270 [(0, 4), (4, 192), (196, 192), (388, 12), (400, 12), (412, 12), (424, 12), (436, 1), (437, 68), (505, 68), (573, 30), (603, 1), (604, 1), (605, 3)] (fa zC) := .ofS (by kernel_rfl) (by kernel_rfl)
theorem zC_one (j : Nat) : (zC j).oneCell' = true := by
  unfold zC
  repeat' split
  all_goals rfl
theorem fa_one {f : Nat → Value} (h : ∀ j, (f j).oneCell' = true) : ∀ v ∈ (fa f).toList, v.oneCell' = true := by
  intro v hv
  obtain ⟨i, hi⟩ := List.getElem?_of_mem hv
  rw [Array.getElem?_toList] at hi
  by_cases hl : i < 608
  · rw [fa_get hl] at hi
    rw [← Option.some.inj hi]; exact h i
  · rw [Array.getElem?_eq_none (by rw [fa_size]; omega)] at hi
    cases hi
/-- A state of nothing but its numbers. -/
def z1 (c : Cfg) (mask : Value) (j : Nat) : Value := if j = 604 then mask else if j = 605 then .int .i64 (c.lc : Nat) else if j = 606 then .int .i64 (c.lp : Nat) else if j = 607 then .int .i64 (c.pb : Nat) else zC j
theorem z1_one {c : Cfg} {mask : Value} (hm : mask.oneCell' = true) (j : Nat) : (z1 c mask j).oneCell' = true := by
  unfold z1
  split
  · exact hm
  split
  · rfl
  split
  · rfl
  split
  · rfl
  · exact zC_one j
theorem z1_fl1 (c : Cfg) : putAll (fa zC) 605 [.int .i64 (c.lc : Nat), .int .i64 (c.lp : Nat), .int .i64 (c.pb : Nat)] = fa (z1 c (.int .u32 0)) := by
  unfold putAll putAll putAll putAll
  rw [fa_set, fa_set, fa_set]
  refine fa_congr fun j _ => ?_
  unfold z1
  by_cases a : j = 604
  · subst a; rfl
  · rw [if_neg a]
    by_cases b : j = 607
    · subst b; rfl
    · rw [if_neg (show ¬ j = 605 + 1 + 1 by omega)]
      by_cases d : j = 606
      · subst d; rfl
      · rw [if_neg (show ¬ j = 605 + 1 by omega)]
        by_cases e : j = 605
        · subst e; rfl
        · rw [if_neg e, if_neg e, if_neg d, if_neg b]
theorem z1_fl2 (c : Cfg) (m : Value) : (fa (z1 c (.int .u32 0))).setIfInBounds 604 m = fa (z1 c m) := by
  rw [fa_set]
  refine fa_congr fun j _ => ?_
  unfold z1
  by_cases a : j = 604
  · rw [if_pos a, if_pos a]
  · rw [if_neg a, if_neg a, if_neg a]
theorem fa_ext3 {f : Nat → Value} {i : Nat} (h : i + 3 ≤ 608) : (fa f).extract i (i + 3) = #[f i, f (i + 1), f (i + 2)] := by
  apply Array.ext_getElem?
  intro j
  rw [Array.getElem?_extract]
  rcases j with _ | _ | _ | j
  · simp [fa_size, fa_get (f := f) (i := i) (by omega)]; omega
  · simp [fa_size, fa_get (f := f) (i := i + 1) (by omega)]; omega
  · simp [fa_size, fa_get (f := f) (i := i + 2) (by omega)]; omega
  · simp [fa_size]; omega
theorem stC_fa (T : Tab) (M : PM) (c : Cfg) (q : Regs) : stC T M c q = fa (stCell T M c q) := by unfold stC fa; rfl
theorem sq_len (T : Tab) (I : Lids) {j : Nat} (h : j < 66) : sqCell (lenSq I) T j = lenCell T I j := by
  unfold sqCell lenCell lenSq
  dsimp only
  by_cases a : j < 32
  · rw [if_pos a, if_pos (show j / 2 < 16 by omega), if_pos (show j / 2 < 32 by omega)]
    rfl
  · rw [if_neg a, if_neg (show ¬ j / 2 < 16 by omega)]
    by_cases b : j < 64
    · rw [if_pos b, if_pos (show j / 2 < 32 by omega), if_pos (show j / 2 < 32 by omega), show j / 2 - 16 = (j - 32) / 2 by omega]
      rfl
    · rw [if_neg b, if_neg (show ¬ j / 2 < 32 by omega), if_neg (show ¬ j / 2 < 32 by omega)]
      by_cases d : j = 64
      · rw [if_pos d, if_pos (by omega)]
      · rw [if_neg d, if_neg (by omega)]; rfl
theorem sq_dist (T : Tab) {j : Nat} (h : j < 30) : sqCell distSq T j = distCell T j := by
  unfold sqCell distCell distSq
  dsimp only
  by_cases a : j < 8
  · rw [if_pos a, if_pos (show j / 2 < 4 by omega), if_pos (show j / 2 < 4 by omega)]
    rfl
  · rw [if_neg a, if_neg (show ¬ j / 2 < 4 by omega), if_neg (show ¬ j / 2 < 4 by omega)]
    by_cases b : j < 28
    · rw [if_pos b, if_pos (show j / 2 < 14 by omega), if_pos (show j / 2 < 14 by omega), show 7 + j / 2 = 11 + (j - 8) / 2 by omega, show j / 2 / 2 - 1 = ((j - 8) / 2 + 4) / 2 - 1 by omega]
    · rw [if_neg b, if_neg (show ¬ j / 2 < 14 by omega), if_neg (show ¬ j / 2 < 14 by omega)]
      by_cases d : j = 28
      · rw [if_pos d, if_pos (by omega)]
      · rw [if_neg d, if_neg (by omega)]; rfl
/-- What the chances of the state are. -/
def p6 (f : Nat → Value) : Nat → Value := fun j => if 196 ≤ j ∧ j < 196 + 192 then vu16 1024 else if 424 ≤ j ∧ j < 424 + 12 then vu16 1024 else if 412 ≤ j ∧ j < 412 + 12 then vu16 1024 else if 400 ≤ j ∧ j < 400 + 12 then vu16 1024 else if 388 ≤ j ∧ j < 388 + 12 then vu16 1024 else if 4 ≤ j ∧ j < 4 + 192 then vu16 1024 else f j
theorem reset_eq (c : Cfg) (T1 T2 T3 T4 : Tab) (h21 : T4.sl 21 = T1.sl 21) (hm : ∀ r, r < 33 → T4.sl ((lenSq matI).id r) = T2.sl ((lenSq matI).id r)) (hr : ∀ r, r < 33 → T4.sl ((lenSq repI).id r) = T3.sl ((lenSq repI).id r)) :
    fa (gC distSq T4 573 15 (gC (lenSq repI) T3 (505 + 2) 33 (chC 505 (gC (lenSq matI) T2 (437 + 2) 33 (chC 437 fun j => if j = 436 then T1.sl 21 else p6 (z1 c (.int .u32 (2 ^ c.pb - 1 : Nat))) j))))) = stC T4 M0 c LzS.start.regs := by
  rw [stC_fa]
  refine fa_congr fun j hj => ?_
  have em : ∀ i, i < 66 → sqCell (lenSq matI) T2 i = sqCell (lenSq matI) T4 i := fun i hi => by
    unfold sqCell; split
    · rw [hm _ (by omega)]
    · rfl
  have er : ∀ i, i < 66 → sqCell (lenSq repI) T3 i = sqCell (lenSq repI) T4 i := fun i hi => by
    unfold sqCell; split
    · rw [hr _ (by omega)]
    · rfl
  unfold gC chC p6 stCell
  dsimp only
  by_cases g : 573 ≤ j ∧ j < 573 + 2 * 15
  · rw [if_pos g, sq_dist _ (by omega)]
    rw [if_neg (show ¬ j < 4 by omega), if_neg (show ¬ j < 196 by omega), if_neg (show ¬ j < 388 by omega), if_neg (show ¬ j < 400 by omega), if_neg (show ¬ j < 412 by omega), if_neg (show ¬ j < 424 by omega), if_neg (show ¬ j < 436 by omega), if_neg (show ¬ j < 437 by omega), if_neg (show ¬ j < 439 by omega), if_neg (show ¬ j < 505 by omega), if_neg (show ¬ j < 507 by omega), if_neg (show ¬ j < 573 by omega), if_pos (show j < 603 by omega)]
  rw [if_neg g]
  by_cases g1 : 505 + 2 ≤ j ∧ j < 505 + 2 + 2 * 33
  · rw [if_pos g1, er _ (by omega), sq_len _ _ (by omega)]
    rw [if_neg (show ¬ j < 4 by omega), if_neg (show ¬ j < 196 by omega), if_neg (show ¬ j < 388 by omega), if_neg (show ¬ j < 400 by omega), if_neg (show ¬ j < 412 by omega), if_neg (show ¬ j < 424 by omega), if_neg (show ¬ j < 436 by omega), if_neg (show ¬ j < 437 by omega), if_neg (show ¬ j < 439 by omega), if_neg (show ¬ j < 505 by omega), if_neg (show ¬ j < 507 by omega), if_pos (show j < 573 by omega)]
  rw [if_neg g1]
  by_cases g2 : 505 ≤ j ∧ j < 505 + 2
  · rw [if_pos g2]
    rw [if_neg (show ¬ j < 4 by omega), if_neg (show ¬ j < 196 by omega), if_neg (show ¬ j < 388 by omega), if_neg (show ¬ j < 400 by omega), if_neg (show ¬ j < 412 by omega), if_neg (show ¬ j < 424 by omega), if_neg (show ¬ j < 436 by omega), if_neg (show ¬ j < 437 by omega), if_neg (show ¬ j < 439 by omega), if_neg (show ¬ j < 505 by omega), if_pos (show j < 507 by omega)]
  rw [if_neg g2]
  by_cases g3 : 437 + 2 ≤ j ∧ j < 437 + 2 + 2 * 33
  · rw [if_pos g3, em _ (by omega), sq_len _ _ (by omega)]
    rw [if_neg (show ¬ j < 4 by omega), if_neg (show ¬ j < 196 by omega), if_neg (show ¬ j < 388 by omega), if_neg (show ¬ j < 400 by omega), if_neg (show ¬ j < 412 by omega), if_neg (show ¬ j < 424 by omega), if_neg (show ¬ j < 436 by omega), if_neg (show ¬ j < 437 by omega), if_neg (show ¬ j < 439 by omega), if_pos (show j < 505 by omega)]
  rw [if_neg g3]
  by_cases g4 : 437 ≤ j ∧ j < 437 + 2
  · rw [if_pos g4]
    rw [if_neg (show ¬ j < 4 by omega), if_neg (show ¬ j < 196 by omega), if_neg (show ¬ j < 388 by omega), if_neg (show ¬ j < 400 by omega), if_neg (show ¬ j < 412 by omega), if_neg (show ¬ j < 424 by omega), if_neg (show ¬ j < 436 by omega), if_neg (show ¬ j < 437 by omega), if_pos (show j < 439 by omega)]
  rw [if_neg g4]
  by_cases g5 : j = 436
  · rw [if_pos g5, ← h21]
    rw [if_neg (show ¬ j < 4 by omega), if_neg (show ¬ j < 196 by omega), if_neg (show ¬ j < 388 by omega), if_neg (show ¬ j < 400 by omega), if_neg (show ¬ j < 412 by omega), if_neg (show ¬ j < 424 by omega), if_neg (show ¬ j < 436 by omega), if_pos (show j < 437 by omega)]
  rw [if_neg g5]
  by_cases k0 : 196 ≤ j ∧ j < 196 + 192
  · rw [if_pos k0]
    rw [if_neg (show ¬ j < 4 by omega), if_neg (show ¬ j < 196 by omega), if_pos (show j < 388 by omega)]
  rw [if_neg k0]
  by_cases k1 : 424 ≤ j ∧ j < 424 + 12
  · rw [if_pos k1]
    rw [if_neg (show ¬ j < 4 by omega), if_neg (show ¬ j < 196 by omega), if_neg (show ¬ j < 388 by omega), if_neg (show ¬ j < 400 by omega), if_neg (show ¬ j < 412 by omega), if_neg (show ¬ j < 424 by omega), if_pos (show j < 436 by omega)]
  rw [if_neg k1]
  by_cases k2 : 412 ≤ j ∧ j < 412 + 12
  · rw [if_pos k2]
    rw [if_neg (show ¬ j < 4 by omega), if_neg (show ¬ j < 196 by omega), if_neg (show ¬ j < 388 by omega), if_neg (show ¬ j < 400 by omega), if_neg (show ¬ j < 412 by omega), if_pos (show j < 424 by omega)]
  rw [if_neg k2]
  by_cases k3 : 400 ≤ j ∧ j < 400 + 12
  · rw [if_pos k3]
    rw [if_neg (show ¬ j < 4 by omega), if_neg (show ¬ j < 196 by omega), if_neg (show ¬ j < 388 by omega), if_neg (show ¬ j < 400 by omega), if_pos (show j < 412 by omega)]
  rw [if_neg k3]
  by_cases k4 : 388 ≤ j ∧ j < 388 + 12
  · rw [if_pos k4]
    rw [if_neg (show ¬ j < 4 by omega), if_neg (show ¬ j < 196 by omega), if_neg (show ¬ j < 388 by omega), if_pos (show j < 400 by omega)]
  rw [if_neg k4]
  by_cases k5 : 4 ≤ j ∧ j < 4 + 192
  · rw [if_pos k5]
    rw [if_neg (show ¬ j < 4 by omega), if_pos (show j < 196 by omega)]
  rw [if_neg k5]
  by_cases m0 : j < 4
  · rw [if_pos m0]
    unfold z1 zC
    rw [if_neg (by omega), if_neg (by omega), if_neg (by omega), if_neg (by omega), if_pos m0]
    have : j = 0 ∨ j = 1 ∨ j = 2 ∨ j = 3 := by omega
    rcases this with rfl | rfl | rfl | rfl <;> rfl
  have hj' : j = 603 ∨ j = 604 ∨ j = 605 ∨ j = 606 ∨ j = 607 := by omega
  rcases hj' with rfl | rfl | rfl | rfl | rfl <;> rfl
end Go.Proofs.YtfpepghmbeoanaaGreatDoor
end
