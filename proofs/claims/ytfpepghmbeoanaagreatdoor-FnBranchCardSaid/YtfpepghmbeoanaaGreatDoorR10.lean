/-
A filter's reader reads.
The four filters as readers; the thin package's call.
FnBranch: the law's walk.
-/
import Derived.Test.YtfpepghmbeoanaaGreatDoorR09
import Derived.Test.YtfpepghmbeoanaaGreatDoorR05
import Derived.Test.YtfpepghmbeoanaaGreatDoorR06
import Derived.Test.YtfpepghmbeoanaaGreatDoorR08
set_option linter.unusedSimpArgs false
set_option linter.unusedVariables false
section
open Go Go.RowKit
namespace Go.Proofs.YtfpepghmbeoanaaGreatDoor
/-- What a filter has done to bytes. -/
structure CvOk {σ : Type} (D : σ → List Nat → List Nat) (pos : σ → Nat) (sz : Nat) (s : σ) (bs : List Nat) (cs : Array Value) (o : Nat) (x : σ × List Nat × Array Value) : Prop where
  le : x.2.1.length ≤ bs.length
  most : bs.length < x.2.1.length + sz
  rd : RdOk x.2.2 o (x.2.1 ++ bs.drop x.2.1.length)
  size : x.2.2.size = cs.size
  pos : pos x.1 = pos s + x.2.1.length
  eq : ∀ rest, D s (bs ++ rest) = x.2.1 ++ D x.1 (bs.drop x.2.1.length ++ rest)
/-- A filter. -/
structure Cv (G : Gst) where
  t : TypeId
  u : Value
  fS : FuncId
  fC : FuncId
  sz : Nat
  hsz : 1 ≤ sz ∧ sz ≤ 5
  σ : Type
  A : σ → Asn
  pos : σ → Nat
  D : σ → List Nat → List Nat
  mS : Mth Tryz.prog t u "Size" fS u
  mC : Mth Tryz.prog t u "Convert" fC u
  size : ∀ s, Con Tryz.prog G fS #[u] [A s] (fun _ : Unit => .int .i64 (sz : Int)) (fun _ => [A s])
  short : ∀ s l, l.length < sz → D s l = l
  len : ∀ s l, (D s l).length = l.length
  convS : ∀ s (a : Option Addr) (c : Nat), Con Tryz.prog G fC #[u, .slice a 0 c, .bool false] [A s] (fun _ : Unit => .int .i64 0) (fun _ => [A s])
  conv : ∀ s (b o l c : Nat) (cs : Array Value) (bs : List Nat), RdOk cs o bs → bs.length = l → o + l ≤ cs.size → sz ≤ l → l ≤ c → pos s + l ≤ 100000 →
    Con Tryz.prog G fC #[u, .slice (some ⟨b, o, none⟩) l c, .bool false] [A s, cel b 5 cs] (fun x : {x : σ × List Nat × Array Value // CvOk D pos sz s bs cs o x} => .int .i64 (x.1.2.1.length : Nat)) (fun x => [A x.1.1, cel b 5 x.1.2.2])
theorem splice_nil {ps : Array Value} : splice ps 0 (u8s []) = ps := by
  unfold splice
  simp [u8s]
section
variable {P : Program} {G : Gst} {Q : Exit → Act → World → Prop} {n' : Nat} {base : Nat → Value} {L : List (Nat × Value)} {D : List Deferred} {As r : List Asn}
theorem JX.bug {e : Exit} {rb : Nat} {Rv : Value} {n : Nat} {cv : Value} {xs : List Nat} {T : Nat} {g : BG} {lr : Int} (q : Picks [RcA rb Rv (.slice g.adr g.l g.c) g.off lr n cv, g.A] As r)
    (h : g.Ok xs T) (k : JX G Q e n' base L D (BuS rb Rv n cv xs T :: r)) : JX G Q e n' base L D As :=
  ⟨fun w hw => k.run w (Sat.shuts (f := fun g : {g : BG // g.Ok xs T} => g.1.cells rb Rv n cv) ⟨⟨g.a, g.off, g.l, g.c, lr, g.cur⟩, h.len, h.lt, h.tot, h.nil, h.blk⟩ (hw.picks q))⟩
end
set_option maxRecDepth 100000 in
theorem fRead_con (G : Gst) (rb : Nat) (Rv cv : Value) (b l c off n pb m : Nat) (lr : Int) (cur ps : Array Value) (xs : List Nat) (h1 : off + xs.length = l) (h2 : RdOk cur off xs) (h3 : l ≤ c) (h4 : l ≤ 100000) (h5 : c < 9223372036854775808) (hm : 1 ≤ m ∧ m ≤ xs.length ∧ m ≤ 512) (hp : ps.size = 512) :
    Con Tryz.prog G 143 #[.pointer (some ⟨rb, 1, none⟩), .slice (some ⟨pb, 0, none⟩) m 512] [RcA rb Rv (.slice (some ⟨b, 0, none⟩) l c) off lr n cv, cel b 5 cur, cel pb 5 ps] (fun _ : Unit => .tuple #[.int .i64 (m : Int), .nilIface])
      (fun _ => [RcA rb Rv (.slice (some ⟨b, 0, none⟩) l c) (off + m) (-1) n cv, cel b 5 cur, cel pb 5 (splice ps 0 (u8s (xs.take m)))]) := by
  have hr := h2.piece0 (m := m) (by omega)
  have hl : (u8s (xs.take m)).length = m := by rw [u8s_len, List.length_take]; omega
  refine Con.intro Tryz.func143 rfl (by kernel_rfl) Tryz.ntmps143 (Nat.le_of_ble_eq_true rfl) ?_
  intro F
  show JC _ _ _ _ _ _ [(0, _), (1, _)] _ [_, _, _, _]
  refine sR ?_
  refine oC ?_
  refine oC ?_
  refine nC (sR ?_)
  refine oM ?_
  first | refine JO.py (Py.nil xe) ?_ | refine JO.py (Py.nilI xe) ?_
  refine JO.py (Py.fld fld131_2 xe xoff) ?_
  refine JO.store siz129 xe ev_const (by first | rfl | assumption) xpick xsize xnorm ?_
  refine nC (JC.seq (sR ?_))
  refine oM ?_
  refine JO.call (Evs.cons xe Evs.nil) (fEmpty_con G rb Rv cv (some ⟨b, 0, none⟩) l c off n 0 (by omega)) xpkE ?_
  rintro _
  show JO _ _ _ _ _ _ _ ((10, _) :: _) _ (_ :: _ :: _)
  refine nC ?_
  refine cF ?_
  refine JC.skip (JX.code (JC.seq ?_))
  refine JC.regionM [(0, true), (1, true), (2, true), (3, true), (4, true), (5, true), (6, true), (7, true), (8, true), (9, true), (10, false), (11, true)] mixed (by kernel_rfl) ?_
  refine JM.py ao ⟨fun _ => Py.move xe⟩ ?_
  refine JM.py ao ⟨fun _ => Py.move xe⟩ ?_
  first | refine JM.py ao ⟨fun _ => Py.nil xe⟩ ?_ | refine JM.py ao ⟨fun _ => Py.nilI xe⟩ ?_
  refine JM.py ao ⟨fun _ => Py.fld fld131_0 xe xoff⟩ ?_
  refine JM.ld ao scal22 xe xpick xrow ?_
  refine JM.py ao ⟨fun _ => Py.move xe⟩ ?_
  first | refine JM.py ao ⟨fun _ => Py.nil xe⟩ ?_ | refine JM.py ao ⟨fun _ => Py.nilI xe⟩ ?_
  refine JM.py ao ⟨fun _ => Py.fld fld131_1 xe xoff⟩ ?_
  refine JM.ld ao scal3 xe xpick xrow ?_
  refine JM.py ao ⟨fun _ => Py.slc (l := off) (h := l) (p := off) (q := l - off) (c := c - off) Tryz.underlying22 siz5 xe (Bd.some xe (by omega)) Bd.none (by omega) (by omega) (by omega) (by omega) (by omega) (by omega)⟩ ?_
  refine JM.eff ao ?_
  refine JO.copy (news := u8s (xs.take m)) (cs' := splice ps 0 (u8s (xs.take m))) Tryz.underlying22 info5 xe xe (hl) (by omega) xpick (Reads.cel (o := off) xpick hr) (by omega) (u8s_one) (by unfold splice; rw [hl]) ?_
  refine JO.nil ?_
  refine JX.mix (Kept.drop (Forced.trans (q := 9) (Forced.step (by kernel_rfl)) (Forced.step (by kernel_rfl))) (Kept.drop (Forced.trans (q := 9) (Forced.step (by kernel_rfl)) (Forced.step (by kernel_rfl))) Kept.nil)) ?_
  refine JM.py ao ⟨fun _ => Py.assign xe⟩ ?_
  refine JM.nil (JX.code (sR ?_))
  refine oM ?_
  first | refine JO.py (Py.nil xe) ?_ | refine JO.py (Py.nilI xe) ?_
  refine JO.py (Py.fld fld131_1 xe xoff) ?_
  refine JO.py (Py.load scal3 xe xpick xrow) ?_
  refine oM ?_
  refine JO.py (Py.add xe xe wI) ?_
  first | refine JO.py (Py.nil xe) ?_ | refine JO.py (Py.nilI xe) ?_
  refine JO.py (Py.fld fld131_1 xe xoff) ?_
  refine JO.store siz3 xe xe (by first | rfl | assumption) xpick xsize xnorm ?_
  refine nC (JC.seq (sR ?_))
  refine oM ?_
  first | refine oD (Py.gtr xe ev_const) ?_ | refine oU (Py.gtr xe ev_const) ?_ | refine JO.py (Py.gtr xe ev_const) ?_
  refine nC ?_
  refine cT ?_
  refine JC.region ?_
  refine oM ?_
  first | refine JO.py (Py.nil xe) ?_ | refine JO.py (Py.nilI xe) ?_
  refine JO.py (Py.fld fld131_2 xe xoff) ?_
  refine JO.store siz129 xe ev_const (by first | rfl | assumption) xpick xsize xnorm ?_
  refine nC (sR ?_)
  refine oM ?_
  refine oA ?_
  refine oC ?_
  refine nC (JC.ret ?_)
  refine JX.end2 (Or.inl rfl) (()) Tryz.results143 (tup2 ((xe).trans (by first | exact xval | (dsimp only; exact xval))) ((xe).trans (by first | exact xval | (dsimp only; exact xval)))) xpkE
/-- What a read gives. -/
structure RpOk {G : Gst} (C : Cv G) (st : List Nat) (s : C.σ) (xs : List Nat) (i : Nat) (x : C.σ × List Nat × List Nat × Nat × Bool) : Prop where
  short : x.2.2.1.length < C.sz
  ile : x.2.2.2.1 ≤ st.length
  most : x.2.1.length ≤ 512
  eq : C.D s (xs ++ st.drop i) = x.2.1 ++ C.D x.1 (x.2.2.1 ++ st.drop x.2.2.2.1)
  eof : x.2.2.2.2 = true → x.2.2.1 = [] ∧ st.length ≤ x.2.2.2.1
  go : x.2.2.2.2 = false → 0 < x.2.1.length
  pos : C.pos x.1 ≤ C.pos s + x.2.1.length
theorem cat_take {o ys : List Nat} : (o ++ ys.drop o.length).take o.length = o ∧ (o ++ ys.drop o.length).drop o.length = ys.drop o.length := by simp
set_option maxRecDepth 100000 in
set_option maxHeartbeats 4000000 in
theorem rd226_con (G : Gst) (C : Cv G) (rb r : Nat) (sv : Value) (st : List Nat) (hst : ∀ x ∈ st, x < 256) (s : C.σ) (xs : List Nat) (i pb : Nat) (hxs : xs.length < C.sz) (hi : i ≤ st.length) (hsl : st.length ≤ 60000) (hpos : C.pos s ≤ 60000) (ea : Addr) (eT : TypeId) (ef : Nat × Nat) :
    Con Tryz.prog G 226 #[.pointer (some ⟨rb, 0, none⟩), .slice (some ⟨pb, 0, none⟩) 512 512] [BuS rb (rdV r) 0 (.iface C.t C.u) xs i, SrcA r sv st i, C.A s, cel pb 5 (Array.replicate 512 (.int .u8 0)), EofA ea eT ef]
      (fun x : {x : C.σ × List Nat × List Nat × Nat × Bool // RpOk C st s xs i x} => .tuple #[.int .i64 (x.1.2.1.length : Nat), if x.1.2.2.2.2 then eofV ea else .nilIface])
      (fun x => [BuS rb (rdV r) 0 (.iface C.t C.u) x.1.2.2.1 x.1.2.2.2.1, SrcA r sv st x.1.2.2.2.1, C.A x.1.1, cel pb 5 (splice (Array.replicate 512 (.int .u8 0)) 0 (u8s x.1.2.1)), EofA ea eT ef]) := by
  have hsz := C.hsz
  obtain ⟨k, hk⟩ : ∃ k, min (512 - xs.length) (st.length - i) = k := ⟨_, rfl⟩
  obtain ⟨ys, hys⟩ : ∃ ys, xs ++ (st.drop i).take k = ys := ⟨_, rfl⟩
  have hyl : ys.length = xs.length + k := by rw [← hys, List.length_append, List.length_take, List.length_drop]; omega
  have hall : xs ++ st.drop i = ys ++ st.drop (i + k) := by rw [← hys, List.append_assoc, ← List.drop_drop, List.take_append_drop]
  obtain ⟨Lh, hLh⟩ : ∃ z, C.sz = z := ⟨_, rfl⟩
  refine Con.intro Tryz.func226 rfl (by kernel_rfl) Tryz.ntmps226 (Nat.le_of_ble_eq_true rfl) ?_
  intro F
  show JC _ _ _ _ _ _ [(0, _), (1, _)] _ [_, _, _, _, _, _]
  refine JC.as (A := BuS rb (rdV r) 0 (.iface C.t C.u) xs i) (A' := Ex fun g : {g : BG // g.Ok xs i} => g.1.cells rb (rdV r) 0 (.iface C.t C.u)) xpick (rfl) ?_
  refine JC.open xpick ?_
  rintro ⟨g, hg⟩
  show JC _ _ _ _ _ _ _ _ (_ :: _ :: _ :: _ :: _ :: _ :: _ :: _)
  have hgl := hg.len
  have hgt := hg.tot
  refine sR ?_
  refine oC ?_
  refine oC ?_
  refine nC (JC.seq (sR ?_))
  refine oM ?_
  first | refine JO.py (Py.nil xe) ?_ | refine JO.py (Py.nilI xe) ?_
  refine JO.py (Py.fld fld178_0 xe xoff) ?_
  refine JO.py (Py.load scal90 xe xpick xrow) ?_
  first | refine JO.py (Py.eqlNil Tryz.underlying90 xe rfl) ?_ | refine JO.py (Py.eqlHeld Tryz.underlying90 xe rfl) ?_
  refine nC ?_
  refine cF ?_
  refine JC.skip (JX.code (JC.seq (JC.seq ?_)))
  refine JC.regionM [(0, true), (1, true), (2, true), (3, true), (4, true), (5, true), (6, true), (7, true), (8, true), (9, true), (10, true), (11, true), (12, true), (13, true), (16, true), (17, true), (18, true), (14, false), (15, true), (19, false), (20, true), (21, false), (22, true), (23, true), (24, true), (25, true), (26, true)] mixed (by kernel_rfl) ?_
  refine JM.py ao ⟨fun _ => Py.move xe⟩ ?_
  first | refine JM.py ao ⟨fun _ => Py.nil xe⟩ ?_ | refine JM.py ao ⟨fun _ => Py.nilI xe⟩ ?_
  refine JM.py ao ⟨fun _ => Py.fld fld178_1 xe xoff⟩ ?_
  refine JM.py ao ⟨fun _ => Py.mki mki106 xe⟩ ?_
  refine JM.py ao ⟨fun _ => Py.move xe⟩ ?_
  first | refine JM.py ao ⟨fun _ => Py.nil xe⟩ ?_ | refine JM.py ao ⟨fun _ => Py.nilI xe⟩ ?_
  refine JM.py ao ⟨fun _ => Py.fld fld178_0 xe xoff⟩ ?_
  refine JM.ld ao scal90 xe xpick xrow ?_
  refine JM.py ao ⟨fun _ => Py.move xe⟩ ?_
  refine JM.py ao ⟨fun _ => Py.lenS Tryz.underlying22 xe⟩ ?_
  refine JM.py ao ⟨fun _ => Py.move xe⟩ ?_
  first | refine JM.py ao ⟨fun _ => Py.nil xe⟩ ?_ | refine JM.py ao ⟨fun _ => Py.nilI xe⟩ ?_
  refine JM.py ao ⟨fun _ => Py.fld fld178_3 xe xoff⟩ ?_
  refine JM.ld ao scal175 xe xpick xrow ?_
  refine JM.py ao ⟨fun _ => Py.move xe⟩ ?_
  first | refine JM.py ao ⟨fun _ => Py.nil xe⟩ ?_ | refine JM.py ao ⟨fun _ => Py.nilI xe⟩ ?_
  refine JM.py ao ⟨fun _ => Py.fld fld178_1 xe xoff⟩ ?_
  refine JM.eff ao ?_
  refine JO.invoke xe Evs.nil (C.mS) (C.size s) xpkE ?_
  rintro _
  show JO _ _ _ _ _ _ _ ((31, _) :: _) _ (_ :: _ :: _)
  refine JO.nil ?_
  refine JX.mix (Kept.drop (Forced.step (by kernel_rfl)) (Kept.keep (fun _ hw => hw.cell xpick xrow) Kept.nil)) ?_
  first | refine JM.py ao ⟨fun _ => Py.maxT xe xe (by omega)⟩ ?_ | refine JM.py ao ⟨fun _ => Py.maxF xe xe (by omega)⟩ ?_ | refine JM.py ao ⟨fun _ => Py.max2 xe xe⟩ ?_
  refine JM.eff ao ?_
  refine JO.call (Evs.cons xe Evs.nil) (fLen_con G rb (rdV r) (.iface C.t C.u) g.adr g.l g.c g.off 0 g.lr (by omega) (by omega)) xpkE ?_
  rintro _
  show JO _ _ _ _ _ _ _ ((36, _) :: _) _ (_ :: _ :: _)
  rw [show g.l - g.off = xs.length by omega]
  refine JO.nil ?_
  refine JX.mix (Kept.keep (fun _ hw => hw.cell xpick xrow) Kept.nil) ?_
  refine JM.py ao ⟨fun _ => Py.sub (c := ((512 - xs.length : Nat) : Int)) xe xe (by rw [w_i64 (by omega)]; omega)⟩ ?_
  refine JM.eff ao ?_
  refine JO.bug (g := g) (rb := rb) (Rv := rdV r) (n := 0) (cv := .iface C.t C.u) (xs := xs) (T := i) (lr := g.lr) xpkE hg ?_
  refine JO.call (Evs.cons xe (Evs.cons xe (Evs.cons xe Evs.nil))) (copyN_con G rb (.iface C.t C.u) 0 r sv st hst xs (512 - xs.length) i i k (by omega) hi (by omega) hsl hk ea eT ef) xpkE ?_
  rintro _
  show JO _ _ _ _ _ _ _ ((38, _) :: _) _ (_ :: _ :: _ :: _ :: _)
  rw [hys]
  clear hgl hgt hg g
  by_cases hk2 : k = 512 - xs.length
  · skip
    rw [if_pos hk2]
    refine JO.nil ?_
    refine JX.mix (Kept.drop (Forced.step (by kernel_rfl)) Kept.nil) ?_
    refine JM.py ao ⟨fun _ => Py.move xe⟩ ?_
    refine JM.py ao ⟨fun _ => Py.extrI xe xix⟩ ?_
    refine JM.py ao ⟨fun _ => Py.extrI xe xix⟩ ?_
    refine JM.py ao ⟨fun _ => Py.assign xe⟩ ?_
    refine JM.py ao ⟨fun _ => Py.assign xe⟩ ?_
    refine JM.nil (JX.code (sR ?_))
    refine oM ?_
    first | refine JO.py (Py.neqNil Tryz.underlying70 xe rfl) ?_ | refine JO.py (Py.neqHeld Tryz.underlying70 xe rfl) ?_
    refine nC ?_
    refine cF ?_
    refine JC.skip (JX.code (JC.seq ?_))
    refine JC.as (A := BuS rb (rdV r) 0 (.iface C.t C.u) ys (i + k)) (A' := Ex fun g : {g : BG // g.Ok ys (i + k)} => g.1.cells rb (rdV r) 0 (.iface C.t C.u)) xpick (rfl) ?_
    refine JC.open xpick ?_
    rintro ⟨⟨a, off, l, c, lr, cur⟩, g1, g2, g3, g4, g5⟩
    show JC _ _ _ _ _ _ _ _ (_ :: _ :: _ :: _ :: _ :: _ :: _ :: _)
    dsimp only at g1 g2 g3 g4 g5
    rcases a with _ | b
    · exact absurd (g4 rfl).1 (by omega)
    obtain ⟨j1, j2, j3, j4⟩ := g5 b rfl
    show JC _ _ _ _ _ _ _ _ (RcA rb (rdV r) (.slice (some ⟨b, 0, none⟩) l c) off lr 0 (.iface C.t C.u) :: cel b 5 cur :: _)
    refine JC.regionM [(0, true), (1, true), (2, true), (3, true), (4, true), (5, true), (6, true), (7, true), (8, true), (9, true), (10, true), (12, true), (13, true), (14, true), (15, true), (17, true), (18, true), (11, false), (16, true), (19, false), (20, true), (21, true), (22, true), (23, false)] mixed (by kernel_rfl) ?_
    refine JM.py ao ⟨fun _ => Py.move xe⟩ ?_
    first | refine JM.py ao ⟨fun _ => Py.nil xe⟩ ?_ | refine JM.py ao ⟨fun _ => Py.nilI xe⟩ ?_
    refine JM.py ao ⟨fun _ => Py.fld fld178_2 xe xoff⟩ ?_
    refine JM.ld ao scal3 xe xpick xrow ?_
    refine JM.py ao ⟨fun _ => Py.move xe⟩ ?_
    first | refine JM.py ao ⟨fun _ => Py.nil xe⟩ ?_ | refine JM.py ao ⟨fun _ => Py.nilI xe⟩ ?_
    refine JM.py ao ⟨fun _ => Py.fld fld178_3 xe xoff⟩ ?_
    refine JM.ld ao scal175 xe xpick xrow ?_
    refine JM.py ao ⟨fun _ => Py.move xe⟩ ?_
    first | refine JM.py ao ⟨fun _ => Py.nil xe⟩ ?_ | refine JM.py ao ⟨fun _ => Py.nilI xe⟩ ?_
    refine JM.py ao ⟨fun _ => Py.fld fld178_1 xe xoff⟩ ?_
    refine JM.py ao ⟨fun _ => Py.move xe⟩ ?_
    first | refine JM.py ao ⟨fun _ => Py.nil xe⟩ ?_ | refine JM.py ao ⟨fun _ => Py.nilI xe⟩ ?_
    refine JM.py ao ⟨fun _ => Py.fld fld178_2 xe xoff⟩ ?_
    refine JM.ld ao scal3 xe xpick xrow ?_
    first | refine JM.py ao ⟨fun _ => Py.nil xe⟩ ?_ | refine JM.py ao ⟨fun _ => Py.nilI xe⟩ ?_
    refine JM.py ao ⟨fun _ => Py.move xe⟩ ?_
    refine JM.eff ao ?_
    refine JO.call (Evs.cons xe Evs.nil) (fBytes_con G rb (rdV r) (.iface C.t C.u) b l c off 0 lr (by omega) j3) xpkE ?_
    rintro _
    show JO _ _ _ _ _ _ _ ((82, _) :: _) _ (_ :: _ :: _)
    rw [show l - off = ys.length by omega]
    refine JO.nil ?_
    refine JX.mix (Kept.keep (fun _ hw => hw.cell xpick xrow) (Kept.keep (fun _ hw => hw.cell xpick xrow) (Kept.keep (fun _ hw => hw.cell xpick xrow) Kept.nil))) ?_
    refine JM.py ao ⟨fun _ => Py.slc (l := 0) (h := ys.length) (p := off) (q := ys.length) (c := c - off) Tryz.underlying22 siz5 xe (Bd.some xe (by omega)) Bd.none (by omega) (by omega) (by omega) (by omega) (by omega) (by omega)⟩ ?_
    refine JM.eff ao ?_
    refine JO.invoke xe (Evs.cons xe (Evs.cons ev_const Evs.nil)) (C.mC) (C.conv s b off ys.length (c - off) cur ys j1 rfl (by omega) (by omega) (by omega) (by omega)) xpkE ?_
    rintro ⟨⟨s2, o, cur2⟩, q1, q2, q3, q4, q5, q6⟩
    show JO _ _ _ _ _ _ _ ((90, _) :: _) _ (_ :: _ :: _ :: _)
    dsimp only at q1 q2 q3 q4 q5 q6 ⊢
    obtain ⟨m, hm⟩ : ∃ m, o.length = m := ⟨_, rfl⟩
    have ht := (cat_take (o := o) (ys := ys)).1
    have hq6 := q6 (st.drop (i + k))
    rw [hm] at q1 q2 q3 q5 hq6 ht ⊢
    have hl2 : (o ++ ys.drop m).length = ys.length := by rw [List.length_append, List.length_drop]; omega
    refine JO.nil ?_
    refine JX.mix (Kept.drop (Forced.trans (q := 16) (Forced.step (by kernel_rfl)) (Forced.step (by kernel_rfl))) (Kept.drop (Forced.trans (q := 18) (Forced.step (by kernel_rfl)) (Forced.step (by kernel_rfl))) (Kept.keep (fun _ hw => hw.cell xpick xrow) Kept.nil))) ?_
    refine JM.py ao ⟨fun _ => Py.add (c := ((m : Nat) : Int)) xe xe (by rw [w_i64 (by omega)]; omega)⟩ ?_
    first | refine JM.py ao ⟨fun _ => Py.nil xe⟩ ?_ | refine JM.py ao ⟨fun _ => Py.nilI xe⟩ ?_
    refine JM.py ao ⟨fun _ => Py.fld fld178_2 xe xoff⟩ ?_
    refine JM.eff ao ?_
    refine JO.store siz3 xe xe (by first | rfl | assumption) xpick xsize xnorm ?_
    refine JO.nil ?_
    refine JX.mix (Kept.drop (Forced.step (by kernel_rfl)) Kept.nil) ?_
    refine JM.nil (JX.code (JC.seq ?_))
    refine JC.regionM [(0, true), (1, true), (2, true), (3, true), (4, true), (5, true), (6, true), (7, true), (8, true), (9, true), (10, true), (11, true), (12, false), (13, true), (14, true), (15, true), (16, true), (17, true)] mixed (by kernel_rfl) ?_
    refine JM.py ao ⟨fun _ => Py.move xe⟩ ?_
    first | refine JM.py ao ⟨fun _ => Py.nil xe⟩ ?_ | refine JM.py ao ⟨fun _ => Py.nilI xe⟩ ?_
    refine JM.py ao ⟨fun _ => Py.fld fld178_1 xe xoff⟩ ?_
    refine JM.py ao ⟨fun _ => Py.move xe⟩ ?_
    refine JM.py ao ⟨fun _ => Py.move xe⟩ ?_
    first | refine JM.py ao ⟨fun _ => Py.nil xe⟩ ?_ | refine JM.py ao ⟨fun _ => Py.nilI xe⟩ ?_
    refine JM.py ao ⟨fun _ => Py.fld fld178_2 xe xoff⟩ ?_
    refine JM.ld ao scal3 xe xpick xrow ?_
    refine JM.py ao ⟨fun _ => Py.move xe⟩ ?_
    refine JM.py ao ⟨fun _ => Py.lenS Tryz.underlying22 xe⟩ ?_
    first | refine JM.py ao ⟨fun _ => Py.minT xe xe (by omega)⟩ ?_ | refine JM.py ao ⟨fun _ => Py.minF xe xe (by omega)⟩ ?_ | refine JM.py ao ⟨fun _ => Py.min2 xe xe⟩ ?_
    refine JM.py ao ⟨fun _ => Py.slc (l := 0) (h := m) (p := 0) (q := m) (c := 512) Tryz.underlying22 siz5 xe Bd.none (Bd.some xe (by omega)) (by omega) (by omega) (by omega) (by omega) (by omega) (by omega)⟩ ?_
    refine JM.as (A := cel rb 178 _) (A' := RcA rb (rdV r) (.slice (some ⟨b, 0, none⟩) l c) off lr m (.iface C.t C.u)) xpick (by rfl) ?_
    refine JM.eff ao ?_
    refine JO.call (Evs.cons xe (Evs.cons xe Evs.nil)) (fRead_con G rb (rdV r) (.iface C.t C.u) b l c off m pb m lr cur2 (Array.replicate 512 (.int .u8 0)) (o ++ ys.drop m) (by omega) q3 j3 (by omega) g2 (by omega) (by simp)) xpkE ?_
    rintro _
    show JO _ _ _ _ _ _ _ ((107, _) :: _) _ (_ :: _ :: _ :: _ :: _)
    rw [ht]
    refine JO.nil ?_
    refine JX.mix (Kept.drop (Forced.trans (q := 10) (Forced.step (by kernel_rfl)) (Forced.trans (q := 11) (Forced.step (by kernel_rfl)) (Forced.step (by kernel_rfl)))) Kept.nil) ?_
    refine JM.py ao ⟨fun _ => Py.move xe⟩ ?_
    refine JM.py ao ⟨fun _ => Py.extrI xe xix⟩ ?_
    refine JM.py ao ⟨fun _ => Py.extrI xe xix⟩ ?_
    refine JM.py ao ⟨fun _ => Py.assign xe⟩ ?_
    refine JM.py ao ⟨fun _ => Py.assign xe⟩ ?_
    refine JM.nil (JX.code (JC.seq (sR ?_)))
    refine oM ?_
    first | refine JO.py (Py.neqNil Tryz.underlying70 xe rfl) ?_ | refine JO.py (Py.neqHeld Tryz.underlying70 xe rfl) ?_
    refine oM ?_
    first | (refine gT ?_; (refine oM ?_)) | refine kF ?_ | refine JO.skipU rfl (Lk.ev (v := undef) xlk rfl) ?_
    first | (refine gT ?_; (refine JO.py (Py.load scal70 ev_glob xpick xrow) ?_)) | refine kF ?_ | refine JO.skipU rfl (Lk.ev (v := undef) xlk rfl) ?_
    refine kF ?_
    first | (refine gT ?_; (refine JO.py (Py.not xe (by first | with_reducible exact not_t | with_reducible exact not_f | exact rfl)) ?_)) | refine kF ?_ | refine JO.skipU rfl (Lk.ev (v := undef) xlk rfl) ?_
    first | refine JO.py (Py.pickT xe xe) ?_ | refine JO.py (Py.pickF xe ev_const) ?_
    refine nC ?_
    refine cF ?_
    refine JC.skip (JX.code (sR ?_))
    refine oM ?_
    first | refine JO.py (Py.nil xe) ?_ | refine JO.py (Py.nilI xe) ?_
    refine JO.py (Py.fld fld178_2 xe xoff) ?_
    refine JO.py (Py.load scal3 xe xpick xrow) ?_
    refine oM ?_
    refine JO.py (Py.sub xe xe wI) ?_
    first | refine JO.py (Py.nil xe) ?_ | refine JO.py (Py.nilI xe) ?_
    refine JO.py (Py.fld fld178_2 xe xoff) ?_
    refine JO.store siz3 xe xe (by first | rfl | assumption) xpick xsize xnorm ?_
    refine nC (sR ?_)
    refine oM ?_
    refine oM ?_
    refine oA ?_
    refine oA ?_
    refine nC (JC.ret ?_)
    refine JX.bus (rb := rb) (Rv := rdV r) (n := 0) (cv := .iface C.t C.u) (xs := ys.drop m) (T := i + k) (b := b) (off := off + m) (l := l) (c := c) (lr := -1) (cur := cur2) xpkE (by rw [List.length_drop]; omega) (by have hdr := q3.drop (k := m) (p := off + m) rfl; rw [List.drop_left' hm] at hdr; exact hdr) (by omega) j3 j4 g2 g3 ?_
    refine JX.end2 (Or.inl rfl) (⟨(s2, o, ys.drop m, i + k, false), by dsimp only; rw [List.length_drop]; omega, by dsimp only; omega, by dsimp only; omega, by dsimp only; rw [hall]; exact hq6, fun h => (by cases h), fun _ => by dsimp only; omega, by dsimp only; omega⟩) Tryz.results226 (tup2 ((xe).trans (by first | exact xval | (dsimp only; exact xval))) ((xe).trans (by first | exact xval | (dsimp only; exact xval)))) xpkE
  · skip
    rw [if_neg hk2]
    have hik : i + k = st.length := by omega
    refine JO.nil ?_
    refine JX.mix (Kept.drop (Forced.step (by kernel_rfl)) Kept.nil) ?_
    refine JM.py ao ⟨fun _ => Py.move xe⟩ ?_
    refine JM.py ao ⟨fun _ => Py.extrI xe xix⟩ ?_
    refine JM.py ao ⟨fun _ => Py.extrI xe xix⟩ ?_
    refine JM.py ao ⟨fun _ => Py.assign xe⟩ ?_
    refine JM.py ao ⟨fun _ => Py.assign xe⟩ ?_
    refine JM.nil (JX.code (sR ?_))
    refine oM ?_
    first | refine JO.py (Py.neqNil Tryz.underlying70 xe rfl) ?_ | refine JO.py (Py.neqHeld Tryz.underlying70 xe rfl) ?_
    refine nC ?_
    refine cT ?_
    refine JC.seq (sR ?_)
    refine oM ?_
    refine JO.py (Py.load scal70 ev_glob xpick xrow) ?_
    refine JO.call (Evs.cons xe (Evs.cons xe Evs.nil)) (is_con G ea) xpkE ?_
    rintro _
    show JO _ _ _ _ _ _ _ ((45, _) :: _) _ (_ :: _)
    refine JO.py (Py.not xe (by first | with_reducible exact not_t | with_reducible exact not_f | exact rfl)) ?_
    refine nC ?_
    refine cF ?_
    refine JC.skip (JX.code (JC.seq (JC.seq ?_)))
    by_cases hL : ys.length = 0
    · skip
      obtain rfl : ys = [] := List.eq_nil_of_length_eq_zero hL
      refine JC.as (A := BuS rb (rdV r) 0 (.iface C.t C.u) [] (i + k)) (A' := Ex fun g : {g : BG // g.Ok [] (i + k)} => g.1.cells rb (rdV r) 0 (.iface C.t C.u)) xpick (rfl) ?_
      refine JC.open xpick ?_
      rintro ⟨g, hg⟩
      show JC _ _ _ _ _ _ _ _ (_ :: _ :: _ :: _ :: _ :: _ :: _)
      have hgl := hg.len
      have hgt := hg.tot
      rw [List.length_nil] at hgl
      refine JC.region ?_
      refine oM ?_
      first | refine JO.py (Py.nil xe) ?_ | refine JO.py (Py.nilI xe) ?_
      refine JO.py (Py.fld fld178_1 xe xoff) ?_
      refine JO.call (Evs.cons xe Evs.nil) (fLen_con G rb (rdV r) (.iface C.t C.u) g.adr g.l g.c g.off 0 g.lr (by omega) (by omega)) xpkE ?_
      rintro _
      show JO _ _ _ _ _ _ _ ((51, _) :: _) _ (_ :: _ :: _)
      rw [show g.l - g.off = 0 by omega]
      first | refine oD (Py.eql xe ev_const) ?_ | refine oU (Py.eql xe ev_const) ?_ | refine JO.py (Py.eql xe ev_const) ?_
      refine nC ?_
      refine cT ?_
      refine JC.seq ?_
      refine JC.regionD mixed (by kernel_rfl) ?_
      refine JD.py (Py.load scal70 ev_glob xpick xrow) ?_
      refine JD.py (Py.assign ev_const) ?_
      refine JD.py (Py.assign xe) ?_
      refine JD.nilN (JX.code (JC.ret (JX.ret (JX.ret ?_))))
      refine JX.bug (g := g) (rb := rb) (Rv := rdV r) (n := 0) (cv := .iface C.t C.u) (xs := []) (T := i + k) (lr := g.lr) xpkE hg ?_
      refine JX.as (A := cel pb 5 (Array.replicate 512 (.int .u8 0))) (A' := cel pb 5 (splice (Array.replicate 512 (.int .u8 0)) 0 (u8s []))) xpick (by rw [splice_nil]) ?_
      refine JX.end2 (Or.inl rfl) (⟨(s, [], [], i + k, true), by dsimp only; rw [List.length_nil]; omega, by dsimp only; omega, by simp, by dsimp only; rw [hall]; rfl, fun _ => ⟨rfl, by dsimp only; omega⟩, fun h => (by cases h), by dsimp only; omega⟩) Tryz.results226 (tup2 ((xe).trans (by first | exact xval | (dsimp only; exact xval))) ((xe).trans (by first | exact xval | (dsimp only; exact xval)))) xpkE
    · skip
      refine JC.as (A := BuS rb (rdV r) 0 (.iface C.t C.u) ys (i + k)) (A' := Ex fun g : {g : BG // g.Ok ys (i + k)} => g.1.cells rb (rdV r) 0 (.iface C.t C.u)) xpick (rfl) ?_
      refine JC.open xpick ?_
      rintro ⟨⟨a, off, l, c, lr, cur⟩, g1, g2, g3, g4, g5⟩
      show JC _ _ _ _ _ _ _ _ (_ :: _ :: _ :: _ :: _ :: _ :: _ :: _)
      dsimp only at g1 g2 g3 g4 g5
      rcases a with _ | b
      · exact absurd (g4 rfl).1 (by omega)
      obtain ⟨j1, j2, j3, j4⟩ := g5 b rfl
      show JC _ _ _ _ _ _ _ _ (RcA rb (rdV r) (.slice (some ⟨b, 0, none⟩) l c) off lr 0 (.iface C.t C.u) :: cel b 5 cur :: _)
      refine JC.region ?_
      refine oM ?_
      first | refine JO.py (Py.nil xe) ?_ | refine JO.py (Py.nilI xe) ?_
      refine JO.py (Py.fld fld178_1 xe xoff) ?_
      refine JO.call (Evs.cons xe Evs.nil) (fLen_con G rb (rdV r) (.iface C.t C.u) (some ⟨b, 0, none⟩) l c off 0 lr (by omega) (by omega)) xpkE ?_
      rintro _
      show JO _ _ _ _ _ _ _ ((51, _) :: _) _ (_ :: _ :: _)
      rw [show l - off = ys.length by omega]
      first | refine oD (Py.eql xe ev_const) ?_ | refine oU (Py.eql xe ev_const) ?_ | refine JO.py (Py.eql xe ev_const) ?_
      refine nC ?_
      refine cF ?_
      refine JC.skip (JX.code (JC.seq ?_))
      refine JC.regionM [(0, true), (1, true), (2, true), (4, true), (5, true), (6, true), (7, true), (3, false), (8, false), (9, true)] mixed (by kernel_rfl) ?_
      refine JM.py ao ⟨fun _ => Py.move xe⟩ ?_
      first | refine JM.py ao ⟨fun _ => Py.nil xe⟩ ?_ | refine JM.py ao ⟨fun _ => Py.nilI xe⟩ ?_
      refine JM.py ao ⟨fun _ => Py.fld fld178_1 xe xoff⟩ ?_
      refine JM.py ao ⟨fun _ => Py.move xe⟩ ?_
      first | refine JM.py ao ⟨fun _ => Py.nil xe⟩ ?_ | refine JM.py ao ⟨fun _ => Py.nilI xe⟩ ?_
      refine JM.py ao ⟨fun _ => Py.fld fld178_3 xe xoff⟩ ?_
      refine JM.ld ao scal175 xe xpick xrow ?_
      refine JM.eff ao ?_
      refine JO.call (Evs.cons xe Evs.nil) (fLen_con G rb (rdV r) (.iface C.t C.u) (some ⟨b, 0, none⟩) l c off 0 lr (by omega) (by omega)) xpkE ?_
      rintro _
      show JO _ _ _ _ _ _ _ ((57, _) :: _) _ (_ :: _ :: _)
      rw [show l - off = ys.length by omega]
      refine JO.nil ?_
      refine JX.mix (Kept.keep (fun _ hw => hw.cell xpick xrow) Kept.nil) ?_
      refine JM.eff ao ?_
      refine JO.invoke xe Evs.nil (C.mS) (C.size s) xpkE ?_
      rintro _
      show JO _ _ _ _ _ _ _ ((62, _) :: _) _ (_ :: _ :: _)
      by_cases hLs : ys.length < C.sz
      · skip
        refine JO.nil ?_
        refine JX.mix (Kept.drop (Forced.step (by kernel_rfl)) Kept.nil) ?_
        first | refine JM.py ao ⟨fun _ => Py.dec (Py.lss xe xe) (by omega)⟩ ?_ | refine JM.py ao ⟨fun _ => Py.undec (Py.lss xe xe) (by omega)⟩ ?_ | refine JM.py ao ⟨fun _ => Py.lss xe xe⟩ ?_
        refine JM.nil (JX.code ?_)
        refine cT ?_
        refine JC.region ?_
        refine oM ?_
        refine oM ?_
        first | refine JO.py (Py.nil xe) ?_ | refine JO.py (Py.nilI xe) ?_
        refine JO.py (Py.fld fld178_1 xe xoff) ?_
        refine JO.call (Evs.cons xe Evs.nil) (fLen_con G rb (rdV r) (.iface C.t C.u) (some ⟨b, 0, none⟩) l c off 0 lr (by omega) (by omega)) xpkE ?_
        rintro _
        show JO _ _ _ _ _ _ _ ((68, _) :: _) _ (_ :: _ :: _)
        rw [show l - off = ys.length by omega]
        first | refine JO.py (Py.nil xe) ?_ | refine JO.py (Py.nilI xe) ?_
        refine JO.py (Py.fld fld178_2 xe xoff) ?_
        refine JO.store siz3 xe xe (by first | rfl | assumption) xpick xsize xnorm ?_
        refine nC (JC.seq ?_)
        refine JC.as (A := cel rb 178 _) (A' := RcA rb (rdV r) (.slice (some ⟨b, 0, none⟩) l c) off lr ys.length (.iface C.t C.u)) xpick (by rfl) ?_
        refine JC.regionM [(0, true), (1, true), (2, true), (3, true), (4, true), (5, true), (6, true), (7, true), (8, true), (9, true), (10, true), (12, true), (13, true), (14, true), (15, true), (17, true), (18, true), (11, false), (16, true), (19, false), (20, true), (21, true), (22, true), (23, false)] mixed (by kernel_rfl) ?_
        refine JM.py ao ⟨fun _ => Py.move xe⟩ ?_
        first | refine JM.py ao ⟨fun _ => Py.nil xe⟩ ?_ | refine JM.py ao ⟨fun _ => Py.nilI xe⟩ ?_
        refine JM.py ao ⟨fun _ => Py.fld fld178_2 xe xoff⟩ ?_
        refine JM.ld ao scal3 xe xpick xrow ?_
        refine JM.py ao ⟨fun _ => Py.move xe⟩ ?_
        first | refine JM.py ao ⟨fun _ => Py.nil xe⟩ ?_ | refine JM.py ao ⟨fun _ => Py.nilI xe⟩ ?_
        refine JM.py ao ⟨fun _ => Py.fld fld178_3 xe xoff⟩ ?_
        refine JM.ld ao scal175 xe xpick xrow ?_
        refine JM.py ao ⟨fun _ => Py.move xe⟩ ?_
        first | refine JM.py ao ⟨fun _ => Py.nil xe⟩ ?_ | refine JM.py ao ⟨fun _ => Py.nilI xe⟩ ?_
        refine JM.py ao ⟨fun _ => Py.fld fld178_1 xe xoff⟩ ?_
        refine JM.py ao ⟨fun _ => Py.move xe⟩ ?_
        first | refine JM.py ao ⟨fun _ => Py.nil xe⟩ ?_ | refine JM.py ao ⟨fun _ => Py.nilI xe⟩ ?_
        refine JM.py ao ⟨fun _ => Py.fld fld178_2 xe xoff⟩ ?_
        refine JM.ld ao scal3 xe xpick xrow ?_
        first | refine JM.py ao ⟨fun _ => Py.nil xe⟩ ?_ | refine JM.py ao ⟨fun _ => Py.nilI xe⟩ ?_
        refine JM.py ao ⟨fun _ => Py.move xe⟩ ?_
        refine JM.eff ao ?_
        refine JO.call (Evs.cons xe Evs.nil) (fBytes_con G rb (rdV r) (.iface C.t C.u) b l c off ys.length lr (by omega) j3) xpkE ?_
        rintro _
        show JO _ _ _ _ _ _ _ ((82, _) :: _) _ (_ :: _ :: _)
        rw [show l - off = ys.length by omega]
        refine JO.nil ?_
        refine JX.mix (Kept.keep (fun _ hw => hw.cell xpick xrow) (Kept.keep (fun _ hw => hw.cell xpick xrow) (Kept.keep (fun _ hw => hw.cell xpick xrow) Kept.nil))) ?_
        refine JM.py ao ⟨fun _ => Py.slcU (l := ys.length) (h := ys.length) Tryz.underlying22 siz5 xe (Bd.some xe (by omega)) Bd.none (by omega) (by omega)⟩ ?_
        rw [Nat.sub_self]
        refine JM.eff ao ?_
        refine JO.invoke xe (Evs.cons xe (Evs.cons ev_const Evs.nil)) (C.mC) (C.convS s _ _) xpkE ?_
        rintro _
        show JO _ _ _ _ _ _ _ ((90, _) :: _) _ (_ :: _ :: _)
        have hD : C.D s (xs ++ st.drop i) = ys := by
          rw [hall, List.drop_eq_nil_of_le (by omega), List.append_nil]
          exact C.short s ys hLs
        have hD2 : C.D s ([] ++ st.drop (i + k)) = [] := by
          rw [List.drop_eq_nil_of_le (by omega), List.append_nil]
          exact C.short s [] (by rw [List.length_nil]; omega)
        refine JO.nil ?_
        refine JX.mix (Kept.drop (Forced.trans (q := 16) (Forced.step (by kernel_rfl)) (Forced.step (by kernel_rfl))) (Kept.drop (Forced.trans (q := 18) (Forced.step (by kernel_rfl)) (Forced.step (by kernel_rfl))) (Kept.keep (fun _ hw => hw.cell xpick xrow) Kept.nil))) ?_
        refine JM.py ao ⟨fun _ => Py.add (c := ((ys.length : Nat) : Int)) xe xe (by rw [w_i64 (by omega)]; omega)⟩ ?_
        first | refine JM.py ao ⟨fun _ => Py.nil xe⟩ ?_ | refine JM.py ao ⟨fun _ => Py.nilI xe⟩ ?_
        refine JM.py ao ⟨fun _ => Py.fld fld178_2 xe xoff⟩ ?_
        refine JM.eff ao ?_
        refine JO.store siz3 xe xe (by first | rfl | assumption) xpick xsize xnorm ?_
        refine JO.nil ?_
        refine JX.mix (Kept.drop (Forced.step (by kernel_rfl)) Kept.nil) ?_
        refine JM.nil (JX.code (JC.seq ?_))
        refine JC.regionM [(0, true), (1, true), (2, true), (3, true), (4, true), (5, true), (6, true), (7, true), (8, true), (9, true), (10, true), (11, true), (12, false), (13, true), (14, true), (15, true), (16, true), (17, true)] mixed (by kernel_rfl) ?_
        refine JM.py ao ⟨fun _ => Py.move xe⟩ ?_
        first | refine JM.py ao ⟨fun _ => Py.nil xe⟩ ?_ | refine JM.py ao ⟨fun _ => Py.nilI xe⟩ ?_
        refine JM.py ao ⟨fun _ => Py.fld fld178_1 xe xoff⟩ ?_
        refine JM.py ao ⟨fun _ => Py.move xe⟩ ?_
        refine JM.py ao ⟨fun _ => Py.move xe⟩ ?_
        first | refine JM.py ao ⟨fun _ => Py.nil xe⟩ ?_ | refine JM.py ao ⟨fun _ => Py.nilI xe⟩ ?_
        refine JM.py ao ⟨fun _ => Py.fld fld178_2 xe xoff⟩ ?_
        refine JM.ld ao scal3 xe xpick xrow ?_
        refine JM.py ao ⟨fun _ => Py.move xe⟩ ?_
        refine JM.py ao ⟨fun _ => Py.lenS Tryz.underlying22 xe⟩ ?_
        first | refine JM.py ao ⟨fun _ => Py.minT xe xe (by omega)⟩ ?_ | refine JM.py ao ⟨fun _ => Py.minF xe xe (by omega)⟩ ?_ | refine JM.py ao ⟨fun _ => Py.min2 xe xe⟩ ?_
        refine JM.py ao ⟨fun _ => Py.slc (l := 0) (h := ys.length) (p := 0) (q := ys.length) (c := 512) Tryz.underlying22 siz5 xe Bd.none (Bd.some xe (by omega)) (by omega) (by omega) (by omega) (by omega) (by omega) (by omega)⟩ ?_
        refine JM.as (A := cel rb 178 _) (A' := RcA rb (rdV r) (.slice (some ⟨b, 0, none⟩) l c) off lr ys.length (.iface C.t C.u)) xpick (by rfl) ?_
        refine JM.eff ao ?_
        refine JO.call (Evs.cons xe (Evs.cons xe Evs.nil)) (fRead_con G rb (rdV r) (.iface C.t C.u) b l c off ys.length pb ys.length lr cur (Array.replicate 512 (.int .u8 0)) ys g1 j1 j3 (by omega) g2 (by omega) (by simp)) xpkE ?_
        rintro _
        show JO _ _ _ _ _ _ _ ((107, _) :: _) _ (_ :: _ :: _ :: _ :: _)
        rw [List.take_length]
        refine JO.nil ?_
        refine JX.mix (Kept.drop (Forced.trans (q := 10) (Forced.step (by kernel_rfl)) (Forced.trans (q := 11) (Forced.step (by kernel_rfl)) (Forced.step (by kernel_rfl)))) Kept.nil) ?_
        refine JM.py ao ⟨fun _ => Py.move xe⟩ ?_
        refine JM.py ao ⟨fun _ => Py.extrI xe xix⟩ ?_
        refine JM.py ao ⟨fun _ => Py.extrI xe xix⟩ ?_
        refine JM.py ao ⟨fun _ => Py.assign xe⟩ ?_
        refine JM.py ao ⟨fun _ => Py.assign xe⟩ ?_
        refine JM.nil (JX.code (JC.seq (sR ?_)))
        refine oM ?_
        first | refine JO.py (Py.neqNil Tryz.underlying70 xe rfl) ?_ | refine JO.py (Py.neqHeld Tryz.underlying70 xe rfl) ?_
        refine oM ?_
        first | (refine gT ?_; (refine oM ?_)) | refine kF ?_ | refine JO.skipU rfl (Lk.ev (v := undef) xlk rfl) ?_
        first | (refine gT ?_; (refine JO.py (Py.load scal70 ev_glob xpick xrow) ?_)) | refine kF ?_ | refine JO.skipU rfl (Lk.ev (v := undef) xlk rfl) ?_
        refine kF ?_
        first | (refine gT ?_; (refine JO.py (Py.not xe (by first | with_reducible exact not_t | with_reducible exact not_f | exact rfl)) ?_)) | refine kF ?_ | refine JO.skipU rfl (Lk.ev (v := undef) xlk rfl) ?_
        first | refine JO.py (Py.pickT xe xe) ?_ | refine JO.py (Py.pickF xe ev_const) ?_
        refine nC ?_
        refine cF ?_
        refine JC.skip (JX.code (sR ?_))
        refine oM ?_
        first | refine JO.py (Py.nil xe) ?_ | refine JO.py (Py.nilI xe) ?_
        refine JO.py (Py.fld fld178_2 xe xoff) ?_
        refine JO.py (Py.load scal3 xe xpick xrow) ?_
        refine oM ?_
        refine JO.py (Py.sub xe xe wI) ?_
        first | refine JO.py (Py.nil xe) ?_ | refine JO.py (Py.nilI xe) ?_
        refine JO.py (Py.fld fld178_2 xe xoff) ?_
        refine JO.store siz3 xe xe (by first | rfl | assumption) xpick xsize xnorm ?_
        refine nC (sR ?_)
        refine oM ?_
        refine oM ?_
        refine oA ?_
        refine oA ?_
        refine nC (JC.ret ?_)
        refine JX.bus (rb := rb) (Rv := rdV r) (n := 0) (cv := .iface C.t C.u) (xs := []) (T := i + k) (b := b) (off := off + ys.length) (l := l) (c := c) (lr := -1) (cur := cur) xpkE (by rw [List.length_nil]; omega) (RdOk.nil _ _) j2 j3 j4 g2 g3 ?_
        refine JX.end2 (Or.inl rfl) (⟨(s, ys, [], i + k, false), by dsimp only; rw [List.length_nil]; omega, by dsimp only; omega, by dsimp only; omega, by dsimp only; rw [hD, hD2, List.append_nil], fun h => (by cases h), fun _ => by dsimp only; omega, by dsimp only; omega⟩) Tryz.results226 (tup2 ((xe).trans (by first | exact xval | (dsimp only; exact xval))) ((xe).trans (by first | exact xval | (dsimp only; exact xval)))) xpkE
      · skip
        refine JO.nil ?_
        refine JX.mix (Kept.drop (Forced.step (by kernel_rfl)) Kept.nil) ?_
        first | refine JM.py ao ⟨fun _ => Py.dec (Py.lss xe xe) (by omega)⟩ ?_ | refine JM.py ao ⟨fun _ => Py.undec (Py.lss xe xe) (by omega)⟩ ?_ | refine JM.py ao ⟨fun _ => Py.lss xe xe⟩ ?_
        refine JM.nil (JX.code ?_)
        refine cF ?_
        refine JC.skip (JX.code (JC.seq ?_))
        refine JC.regionM [(0, true), (1, true), (2, true), (3, true), (4, true), (5, true), (6, true), (7, true), (8, true), (9, true), (10, true), (12, true), (13, true), (14, true), (15, true), (17, true), (18, true), (11, false), (16, true), (19, false), (20, true), (21, true), (22, true), (23, false)] mixed (by kernel_rfl) ?_
        refine JM.py ao ⟨fun _ => Py.move xe⟩ ?_
        first | refine JM.py ao ⟨fun _ => Py.nil xe⟩ ?_ | refine JM.py ao ⟨fun _ => Py.nilI xe⟩ ?_
        refine JM.py ao ⟨fun _ => Py.fld fld178_2 xe xoff⟩ ?_
        refine JM.ld ao scal3 xe xpick xrow ?_
        refine JM.py ao ⟨fun _ => Py.move xe⟩ ?_
        first | refine JM.py ao ⟨fun _ => Py.nil xe⟩ ?_ | refine JM.py ao ⟨fun _ => Py.nilI xe⟩ ?_
        refine JM.py ao ⟨fun _ => Py.fld fld178_3 xe xoff⟩ ?_
        refine JM.ld ao scal175 xe xpick xrow ?_
        refine JM.py ao ⟨fun _ => Py.move xe⟩ ?_
        first | refine JM.py ao ⟨fun _ => Py.nil xe⟩ ?_ | refine JM.py ao ⟨fun _ => Py.nilI xe⟩ ?_
        refine JM.py ao ⟨fun _ => Py.fld fld178_1 xe xoff⟩ ?_
        refine JM.py ao ⟨fun _ => Py.move xe⟩ ?_
        first | refine JM.py ao ⟨fun _ => Py.nil xe⟩ ?_ | refine JM.py ao ⟨fun _ => Py.nilI xe⟩ ?_
        refine JM.py ao ⟨fun _ => Py.fld fld178_2 xe xoff⟩ ?_
        refine JM.ld ao scal3 xe xpick xrow ?_
        first | refine JM.py ao ⟨fun _ => Py.nil xe⟩ ?_ | refine JM.py ao ⟨fun _ => Py.nilI xe⟩ ?_
        refine JM.py ao ⟨fun _ => Py.move xe⟩ ?_
        refine JM.eff ao ?_
        refine JO.call (Evs.cons xe Evs.nil) (fBytes_con G rb (rdV r) (.iface C.t C.u) b l c off 0 lr (by omega) j3) xpkE ?_
        rintro _
        show JO _ _ _ _ _ _ _ ((82, _) :: _) _ (_ :: _ :: _)
        rw [show l - off = ys.length by omega]
        refine JO.nil ?_
        refine JX.mix (Kept.keep (fun _ hw => hw.cell xpick xrow) (Kept.keep (fun _ hw => hw.cell xpick xrow) (Kept.keep (fun _ hw => hw.cell xpick xrow) Kept.nil))) ?_
        refine JM.py ao ⟨fun _ => Py.slc (l := 0) (h := ys.length) (p := off) (q := ys.length) (c := c - off) Tryz.underlying22 siz5 xe (Bd.some xe (by omega)) Bd.none (by omega) (by omega) (by omega) (by omega) (by omega) (by omega)⟩ ?_
        refine JM.eff ao ?_
        refine JO.invoke xe (Evs.cons xe (Evs.cons ev_const Evs.nil)) (C.mC) (C.conv s b off ys.length (c - off) cur ys j1 rfl (by omega) (by omega) (by omega) (by omega)) xpkE ?_
        rintro ⟨⟨s2, o, cur2⟩, q1, q2, q3, q4, q5, q6⟩
        show JO _ _ _ _ _ _ _ ((90, _) :: _) _ (_ :: _ :: _ :: _)
        dsimp only at q1 q2 q3 q4 q5 q6 ⊢
        obtain ⟨m, hm⟩ : ∃ m, o.length = m := ⟨_, rfl⟩
        have ht := (cat_take (o := o) (ys := ys)).1
        have hq6 := q6 (st.drop (i + k))
        rw [hm] at q1 q2 q3 q5 hq6 ht ⊢
        have hl2 : (o ++ ys.drop m).length = ys.length := by rw [List.length_append, List.length_drop]; omega
        refine JO.nil ?_
        refine JX.mix (Kept.drop (Forced.trans (q := 16) (Forced.step (by kernel_rfl)) (Forced.step (by kernel_rfl))) (Kept.drop (Forced.trans (q := 18) (Forced.step (by kernel_rfl)) (Forced.step (by kernel_rfl))) (Kept.keep (fun _ hw => hw.cell xpick xrow) Kept.nil))) ?_
        refine JM.py ao ⟨fun _ => Py.add (c := ((m : Nat) : Int)) xe xe (by rw [w_i64 (by omega)]; omega)⟩ ?_
        first | refine JM.py ao ⟨fun _ => Py.nil xe⟩ ?_ | refine JM.py ao ⟨fun _ => Py.nilI xe⟩ ?_
        refine JM.py ao ⟨fun _ => Py.fld fld178_2 xe xoff⟩ ?_
        refine JM.eff ao ?_
        refine JO.store siz3 xe xe (by first | rfl | assumption) xpick xsize xnorm ?_
        refine JO.nil ?_
        refine JX.mix (Kept.drop (Forced.step (by kernel_rfl)) Kept.nil) ?_
        refine JM.nil (JX.code (JC.seq ?_))
        refine JC.regionM [(0, true), (1, true), (2, true), (3, true), (4, true), (5, true), (6, true), (7, true), (8, true), (9, true), (10, true), (11, true), (12, false), (13, true), (14, true), (15, true), (16, true), (17, true)] mixed (by kernel_rfl) ?_
        refine JM.py ao ⟨fun _ => Py.move xe⟩ ?_
        first | refine JM.py ao ⟨fun _ => Py.nil xe⟩ ?_ | refine JM.py ao ⟨fun _ => Py.nilI xe⟩ ?_
        refine JM.py ao ⟨fun _ => Py.fld fld178_1 xe xoff⟩ ?_
        refine JM.py ao ⟨fun _ => Py.move xe⟩ ?_
        refine JM.py ao ⟨fun _ => Py.move xe⟩ ?_
        first | refine JM.py ao ⟨fun _ => Py.nil xe⟩ ?_ | refine JM.py ao ⟨fun _ => Py.nilI xe⟩ ?_
        refine JM.py ao ⟨fun _ => Py.fld fld178_2 xe xoff⟩ ?_
        refine JM.ld ao scal3 xe xpick xrow ?_
        refine JM.py ao ⟨fun _ => Py.move xe⟩ ?_
        refine JM.py ao ⟨fun _ => Py.lenS Tryz.underlying22 xe⟩ ?_
        first | refine JM.py ao ⟨fun _ => Py.minT xe xe (by omega)⟩ ?_ | refine JM.py ao ⟨fun _ => Py.minF xe xe (by omega)⟩ ?_ | refine JM.py ao ⟨fun _ => Py.min2 xe xe⟩ ?_
        refine JM.py ao ⟨fun _ => Py.slc (l := 0) (h := m) (p := 0) (q := m) (c := 512) Tryz.underlying22 siz5 xe Bd.none (Bd.some xe (by omega)) (by omega) (by omega) (by omega) (by omega) (by omega) (by omega)⟩ ?_
        refine JM.as (A := cel rb 178 _) (A' := RcA rb (rdV r) (.slice (some ⟨b, 0, none⟩) l c) off lr m (.iface C.t C.u)) xpick (by rfl) ?_
        refine JM.eff ao ?_
        refine JO.call (Evs.cons xe (Evs.cons xe Evs.nil)) (fRead_con G rb (rdV r) (.iface C.t C.u) b l c off m pb m lr cur2 (Array.replicate 512 (.int .u8 0)) (o ++ ys.drop m) (by omega) q3 j3 (by omega) g2 (by omega) (by simp)) xpkE ?_
        rintro _
        show JO _ _ _ _ _ _ _ ((107, _) :: _) _ (_ :: _ :: _ :: _ :: _)
        rw [ht]
        refine JO.nil ?_
        refine JX.mix (Kept.drop (Forced.trans (q := 10) (Forced.step (by kernel_rfl)) (Forced.trans (q := 11) (Forced.step (by kernel_rfl)) (Forced.step (by kernel_rfl)))) Kept.nil) ?_
        refine JM.py ao ⟨fun _ => Py.move xe⟩ ?_
        refine JM.py ao ⟨fun _ => Py.extrI xe xix⟩ ?_
        refine JM.py ao ⟨fun _ => Py.extrI xe xix⟩ ?_
        refine JM.py ao ⟨fun _ => Py.assign xe⟩ ?_
        refine JM.py ao ⟨fun _ => Py.assign xe⟩ ?_
        refine JM.nil (JX.code (JC.seq (sR ?_)))
        refine oM ?_
        first | refine JO.py (Py.neqNil Tryz.underlying70 xe rfl) ?_ | refine JO.py (Py.neqHeld Tryz.underlying70 xe rfl) ?_
        refine oM ?_
        first | (refine gT ?_; (refine oM ?_)) | refine kF ?_ | refine JO.skipU rfl (Lk.ev (v := undef) xlk rfl) ?_
        first | (refine gT ?_; (refine JO.py (Py.load scal70 ev_glob xpick xrow) ?_)) | refine kF ?_ | refine JO.skipU rfl (Lk.ev (v := undef) xlk rfl) ?_
        refine kF ?_
        first | (refine gT ?_; (refine JO.py (Py.not xe (by first | with_reducible exact not_t | with_reducible exact not_f | exact rfl)) ?_)) | refine kF ?_ | refine JO.skipU rfl (Lk.ev (v := undef) xlk rfl) ?_
        first | refine JO.py (Py.pickT xe xe) ?_ | refine JO.py (Py.pickF xe ev_const) ?_
        refine nC ?_
        refine cF ?_
        refine JC.skip (JX.code (sR ?_))
        refine oM ?_
        first | refine JO.py (Py.nil xe) ?_ | refine JO.py (Py.nilI xe) ?_
        refine JO.py (Py.fld fld178_2 xe xoff) ?_
        refine JO.py (Py.load scal3 xe xpick xrow) ?_
        refine oM ?_
        refine JO.py (Py.sub xe xe wI) ?_
        first | refine JO.py (Py.nil xe) ?_ | refine JO.py (Py.nilI xe) ?_
        refine JO.py (Py.fld fld178_2 xe xoff) ?_
        refine JO.store siz3 xe xe (by first | rfl | assumption) xpick xsize xnorm ?_
        refine nC (sR ?_)
        refine oM ?_
        refine oM ?_
        refine oA ?_
        refine oA ?_
        refine nC (JC.ret ?_)
        refine JX.bus (rb := rb) (Rv := rdV r) (n := 0) (cv := .iface C.t C.u) (xs := ys.drop m) (T := i + k) (b := b) (off := off + m) (l := l) (c := c) (lr := -1) (cur := cur2) xpkE (by rw [List.length_drop]; omega) (by have hdr := q3.drop (k := m) (p := off + m) rfl; rw [List.drop_left' hm] at hdr; exact hdr) (by omega) j3 j4 g2 g3 ?_
        refine JX.end2 (Or.inl rfl) (⟨(s2, o, ys.drop m, i + k, false), by dsimp only; rw [List.length_drop]; omega, by dsimp only; omega, by dsimp only; omega, by dsimp only; rw [hall]; exact hq6, fun h => (by cases h), fun _ => by dsimp only; omega, by dsimp only; omega⟩) Tryz.results226 (tup2 ((xe).trans (by first | exact xval | (dsimp only; exact xval))) ((xe).trans (by first | exact xval | (dsimp only; exact xval)))) xpkE
/-- A filter's reader, as a source of bytes. -/
structure FSt {G : Gst} (C : Cv G) (st out : List Nat) (x : C.σ × List Nat × Nat × Nat) : Prop where
  short : x.2.1.length < C.sz
  ile : x.2.2.1 ≤ st.length
  le : x.2.2.2 ≤ out.length
  eq : C.D x.1 (x.2.1 ++ st.drop x.2.2.1) = out.drop x.2.2.2
  pos : C.pos x.1 ≤ x.2.2.2
theorem mth176R (p : Value) : Mth Tryz.prog 176 p "Read" 226 p := fun w => by kernel_rfl
def fRd (G : Gst) (ea : Addr) (eT : TypeId) (ef : Nat × Nat) (C : Cv G) (rb r : Nat) (sv : Value) (st out : List Nat) (hst : ∀ x ∈ st, x < 256) (hsl : st.length ≤ 60000) (hol : out.length ≤ 60000) (s0 : C.σ) (h0 : C.pos s0 = 0) (hD : C.D s0 st = out) : RdSrc G ea eT ef where
  σ := {x : C.σ × List Nat × Nat × Nat // FSt C st out x}
  t := 176
  u := .pointer (some ⟨rb, 0, none⟩)
  f := 226
  out := out
  pos := fun x => x.1.2.2.2
  ms := fun x => out.length - x.1.2.2.2
  A := fun x => Ex fun _ : Unit => [BuS rb (rdV r) 0 (.iface C.t C.u) x.1.2.1 x.1.2.2.1, SrcA r sv st x.1.2.2.1, C.A x.1.1]
  s0 := ⟨(s0, [], 0, 0), by have := C.hsz; dsimp only; rw [List.length_nil]; omega, Nat.zero_le _, Nat.zero_le _, by simpa using hD, by dsimp only; omega⟩
  p0 := rfl
  le := fun x => x.2.le
  m := mth176R _
  con := by
    rintro ⟨⟨s, xs, i, p⟩, h1, h2, h3, h4, h5⟩ pb
    dsimp only at h1 h2 h3 h4 h5 ⊢
    have h := rd226_con G C rb r sv st hst s xs i pb h1 h2 hsl (by omega) ea eT ef
    refine Con.conseq h fun F w hw => ?_
    obtain ⟨_, hw1⟩ := Sat.opens (f := fun _ : Unit => [BuS rb (rdV r) 0 (.iface C.t C.u) xs i, SrcA r sv st i, C.A s]) (l := [cel pb 5 (Array.replicate 512 (.int .u8 0)), EofA ea eT ef, F]) hw
    refine ⟨F, hw1, ?_⟩
    rintro ⟨⟨s2, o, xs2, i2, e⟩, k1, k2, k3, k4, k5, k6, k7⟩ w' hw'
    dsimp only at k1 k2 k3 k4 k5 k6 k7 hw' ⊢
    rw [h4] at k4
    have hl := congrArg List.length k4
    rw [List.length_drop, List.length_append, C.len] at hl
    have hle : p + o.length ≤ out.length := by omega
    have ho : out.drop (p + o.length) = C.D s2 (xs2 ++ st.drop i2) := by
      rw [← List.drop_drop, k4, List.drop_left]
    have hp : piece out p o.length = u8s o := by
      rw [piece_eq hle, k4, List.take_left]
    refine ⟨⟨(⟨(s2, xs2, i2, p + o.length), k1, k2, hle, ho.symm, by dsimp only; omega⟩, o.length, e), rfl, k3, ?_, ?_⟩, rfl, ?_⟩
    · intro he
      obtain ⟨rfl, hi2⟩ := k5 he
      dsimp only
      rw [List.length_append, List.length_nil, List.length_drop] at hl
      omega
    · intro he
      have := k6 he
      dsimp only
      omega
    · dsimp only
      rw [hp]
      exact Sat.shuts (f := fun _ : Unit => [BuS rb (rdV r) 0 (.iface C.t C.u) xs2 i2, SrcA r sv st i2, C.A s2]) () hw'
end Go.Proofs.YtfpepghmbeoanaaGreatDoor
end

section
open Go Go.RowKit
namespace Go.Proofs.YtfpepghmbeoanaaGreatDoor
namespace Bx
theorem byte_cons {x : Nat} {l : List Nat} (hx : x < 256) (hl : Byte l) : Byte (x :: l) := fun y hy => by
  rcases List.mem_cons.1 hy with rfl | h
  · exact hx
  · exact hl y h
theorem byte_tail {x : Nat} {l : List Nat} (h : Byte (x :: l)) : Byte l := fun y hy => h y (List.mem_cons_of_mem _ hy)
theorem byte_head {x : Nat} {l : List Nat} (h : Byte (x :: l)) : x < 256 := h x (by simp)
theorem enc_byte : ∀ (k p : Nat) (h : H) (l : List Nat), l.length ≤ k → Byte l → Byte (enc p h l) := by
  intro k
  induction k with
  | zero => intro p h l hl hb; rw [enc_short (by omega)]; exact hb
  | succ k ih =>
    intro p h l hl hb
    rcases l with _ | ⟨x0, _ | ⟨x1, _ | ⟨x2, _ | ⟨x3, _ | ⟨x4, r⟩⟩⟩⟩⟩
    · rw [enc_short (by simp)]; exact hb
    · rw [enc_short (by simp)]; exact hb
    · rw [enc_short (by simp)]; exact hb
    · rw [enc_short (by simp)]; exact hb
    · rw [enc_short (by simp)]; exact hb
    simp only [List.length_cons] at hl
    have b0 := byte_head hb
    have t1 := byte_tail hb
    have t5 := byte_tail (byte_tail (byte_tail (byte_tail t1)))
    have i1 : ∀ p h, Byte (enc p h (x1 :: x2 :: x3 :: x4 :: r)) := fun p h => ih p h _ (by simp only [List.length_cons]; omega) t1
    unfold enc
    split
    · split
      · exact byte_cons b0 (byte_cons (by unfold by1; omega) (byte_cons (by unfold by2; omega) (byte_cons (by unfold by3; omega) (byte_cons (by unfold by4; split <;> omega) (ih _ _ r (by omega) t5)))))
      · exact byte_cons b0 (i1 _ _)
    · exact byte_cons b0 (i1 _ _)
theorem un_B4 (w : Nat) : B4 (un w) := ⟨by unfold un; dsimp only; omega, by unfold un; dsimp only; omega, by unfold un; dsimp only; omega, by unfold un; dsimp only; omega⟩
theorem un3_B4 (d : Nat) : B4 (un3 d 235) := ⟨by unfold un3; dsimp only; omega, by unfold un3; dsimp only; omega, by unfold un3; dsimp only; omega, by unfold un3; dsimp only; omega⟩
theorem ppcE_B4 (p : Nat) (x : W4) (h : B4 x) : B4 (ppcE p x) := by unfold ppcE; split; exact un_B4 _; exact h
theorem armE_B4 (p : Nat) (x : W4) (h : B4 x) : B4 (armE p x) := by unfold armE; split; exact un3_B4 _; exact h
theorem spE_B4 (p : Nat) (x : W4) (h : B4 x) : B4 (spE p x) := by unfold spE; split; exact un_B4 _; exact h
theorem wmap_byte {f : Nat → W4 → W4} (hf : ∀ p x, B4 x → B4 (f p x)) : ∀ (k p : Nat) (l : List Nat), l.length ≤ k → Byte l → Byte (wmap f p l) := by
  intro k
  induction k with
  | zero => intro p l hl hb; rw [wmap_short (by omega)]; exact hb
  | succ k ih =>
    intro p l hl hb
    rcases l with _ | ⟨x0, _ | ⟨x1, _ | ⟨x2, _ | ⟨x3, r⟩⟩⟩⟩
    · exact hb
    · exact hb
    · exact hb
    · exact hb
    simp only [List.length_cons] at hl
    have b0 := byte_head hb
    have t1 := byte_tail hb
    have t2 := byte_tail t1
    have t3 := byte_tail t2
    have hy := hf p (x0, x1, x2, x3) ⟨b0, byte_head t1, byte_head t2, byte_head t3⟩
    simp only [wmap]
    exact byte_cons hy.1 (byte_cons hy.2.1 (byte_cons hy.2.2.1 (byte_cons hy.2.2.2 (ih _ r (by omega) (byte_tail t3)))))
end Bx
theorem encK_len (k : Nat) (bs : List Nat) : (encK k bs).length = bs.length := by
  unfold encK
  split
  · exact Bx.enc_len _ _ _ _ (Nat.le_refl _)
  · split
    · exact Bx.wmap_len _ _ _ (Nat.le_refl _) _
    · split
      · exact Bx.wmap_len _ _ _ (Nat.le_refl _) _
      · exact Bx.wmap_len _ _ _ (Nat.le_refl _) _
theorem encK_byte (k : Nat) (bs : List Nat) (hb : Bx.Byte bs) : Bx.Byte (encK k bs) := by
  unfold encK
  split
  · exact Bx.enc_byte _ _ _ _ (Nat.le_refl _) hb
  · split
    · exact Bx.wmap_byte Bx.ppcE_B4 _ _ _ (Nat.le_refl _) hb
    · split
      · exact Bx.wmap_byte Bx.armE_B4 _ _ _ (Nat.le_refl _) hb
      · exact Bx.wmap_byte Bx.spE_B4 _ _ _ (Nat.le_refl _) hb
theorem decK0 (bs : List Nat) (hb : Bx.Byte bs) : Bx.dec 0 0 (encK 0 bs) = bs := Bx.dec_enc bs.length 0 Bx.H.none bs (Nat.le_refl _) hb (Bx.H.none_ok _)
theorem decK1 (bs : List Nat) (hb : Bx.Byte bs) : Bx.wmap Bx.ppcD 0 (encK 1 bs) = bs := by
  show Bx.wmap Bx.ppcD 0 (Bx.wmap Bx.ppcE 0 bs) = bs
  exact Bx.wmap_inv (f := Bx.ppcE) (g := Bx.ppcD) (fun p x hp hx => Bx.ppc_inv (p := p) hx hp) bs.length 0 bs (Nat.le_refl _) rfl hb
theorem decK2 (bs : List Nat) (hb : Bx.Byte bs) : Bx.wmap Bx.armD 0 (encK 2 bs) = bs := by
  show Bx.wmap Bx.armD 0 (Bx.wmap Bx.armE 0 bs) = bs
  exact Bx.wmap_inv (f := Bx.armE) (g := Bx.armD) (fun p x _ hx => Bx.arm_inv (p := p) hx) bs.length 0 bs (Nat.le_refl _) rfl hb
theorem decK3 (bs : List Nat) (hb : Bx.Byte bs) : Bx.wmap Bx.spD 0 (encK 3 bs) = bs := by
  show Bx.wmap Bx.spD 0 (Bx.wmap Bx.spE 0 bs) = bs
  exact Bx.wmap_inv (f := Bx.spE) (g := Bx.spD) (fun p x _ hx => Bx.sp_inv (p := p) hx) bs.length 0 bs (Nat.le_refl _) rfl hb
theorem convS_259 (G : Gst) (p : Value) (a : Option Addr) (c : Nat) (A : Asn) : Con Tryz.prog G 259 #[p, .slice a 0 c, .bool false] [A] (fun _ : Unit => .int .i64 0) (fun _ => [A]) := by
  refine Con.intro Tryz.func259 rfl (by kernel_rfl) Tryz.ntmps259 (Nat.le_of_ble_eq_true rfl) ?_
  intro F
  show JC _ _ _ _ _ _ [(0, _), (1, _), (2, _)] _ [_, _]
  refine sR ?_
  refine oC ?_
  refine nC (JC.seq (sR ?_))
  refine oM ?_
  refine JO.py (Py.lenS Tryz.underlying22 xe) ?_
  refine oM ?_
  refine JO.call (Evs.cons xe Evs.nil) (size5_con G p A) xpkE ?_
  rintro _
  show JO _ _ _ _ _ _ _ ((17, _) :: _) _ (_ :: _ :: _)
  first | refine oD (Py.lss xe xe) ?_ | refine oU (Py.lss xe xe) ?_ | refine JO.py (Py.lss xe xe) ?_
  refine nC ?_
  refine cT ?_
  refine sR ?_
  refine oC ?_
  refine nC (JC.ret (JX.ret ?_))
  refine JX.end1 (Or.inl rfl) (()) Tryz.results259 ((xe).trans (by first | exact xval | (dsimp only; exact xval))) xpkE
theorem convS_263 (G : Gst) (p : Value) (a : Option Addr) (c : Nat) (A : Asn) : Con Tryz.prog G 263 #[p, .slice a 0 c, .bool false] [A] (fun _ : Unit => .int .i64 0) (fun _ => [A]) := by
  refine Con.intro Tryz.func263 rfl (by kernel_rfl) Tryz.ntmps263 (Nat.le_of_ble_eq_true rfl) ?_
  intro F
  show JC _ _ _ _ _ _ [(0, _), (1, _), (2, _)] _ [_, _]
  refine sR ?_
  refine oC ?_
  refine nC (JC.seq (sR ?_))
  refine oM ?_
  refine JO.py (Py.lenS Tryz.underlying22 xe) ?_
  refine oM ?_
  refine JO.call (Evs.cons xe Evs.nil) (size4_203 G p A) xpkE ?_
  rintro _
  show JO _ _ _ _ _ _ _ ((12, _) :: _) _ (_ :: _ :: _)
  first | refine oD (Py.lss xe xe) ?_ | refine oU (Py.lss xe xe) ?_ | refine JO.py (Py.lss xe xe) ?_
  refine nC ?_
  refine cT ?_
  refine sR ?_
  refine oC ?_
  refine nC (JC.ret (JX.ret ?_))
  refine JX.end1 (Or.inl rfl) (()) Tryz.results263 ((xe).trans (by first | exact xval | (dsimp only; exact xval))) xpkE
theorem convS_266 (G : Gst) (p : Value) (a : Option Addr) (c : Nat) (A : Asn) : Con Tryz.prog G 266 #[p, .slice a 0 c, .bool false] [A] (fun _ : Unit => .int .i64 0) (fun _ => [A]) := by
  refine Con.intro Tryz.func266 rfl (by kernel_rfl) Tryz.ntmps266 (Nat.le_of_ble_eq_true rfl) ?_
  intro F
  show JC _ _ _ _ _ _ [(0, _), (1, _), (2, _)] _ [_, _]
  refine sR ?_
  refine oC ?_
  refine nC (JC.seq (sR ?_))
  refine oM ?_
  refine JO.py (Py.lenS Tryz.underlying22 xe) ?_
  refine oM ?_
  refine JO.call (Evs.cons xe Evs.nil) (size4_204 G p A) xpkE ?_
  rintro _
  show JO _ _ _ _ _ _ _ ((12, _) :: _) _ (_ :: _ :: _)
  first | refine oD (Py.lss xe xe) ?_ | refine oU (Py.lss xe xe) ?_ | refine JO.py (Py.lss xe xe) ?_
  refine nC ?_
  refine cT ?_
  refine sR ?_
  refine oC ?_
  refine nC (JC.ret (JX.ret ?_))
  refine JX.end1 (Or.inl rfl) (()) Tryz.results266 ((xe).trans (by first | exact xval | (dsimp only; exact xval))) xpkE
theorem convS_267 (G : Gst) (p : Value) (a : Option Addr) (c : Nat) (A : Asn) : Con Tryz.prog G 267 #[p, .slice a 0 c, .bool false] [A] (fun _ : Unit => .int .i64 0) (fun _ => [A]) := by
  refine Con.intro Tryz.func267 rfl (by kernel_rfl) Tryz.ntmps267 (Nat.le_of_ble_eq_true rfl) ?_
  intro F
  show JC _ _ _ _ _ _ [(0, _), (1, _), (2, _)] _ [_, _]
  refine sR ?_
  refine oC ?_
  refine nC (JC.seq (sR ?_))
  refine oM ?_
  refine JO.py (Py.lenS Tryz.underlying22 xe) ?_
  refine oM ?_
  refine JO.call (Evs.cons xe Evs.nil) (size4_205 G p A) xpkE ?_
  rintro _
  show JO _ _ _ _ _ _ _ ((12, _) :: _) _ (_ :: _ :: _)
  first | refine oD (Py.lss xe xe) ?_ | refine oU (Py.lss xe xe) ?_ | refine JO.py (Py.lss xe xe) ?_
  refine nC ?_
  refine cT ?_
  refine sR ?_
  refine oC ?_
  refine nC (JC.ret (JX.ret ?_))
  refine JX.end1 (Or.inl rfl) (()) Tryz.results267 ((xe).trans (by first | exact xval | (dsimp only; exact xval))) xpkE
def bcjCv (G : Gst) (cb : Nat) : Cv G where
  t := 121
  u := .pointer (some ⟨cb, 0, none⟩)
  fS := 191
  fC := 259
  sz := 5
  hsz := by decide
  σ := {x : Nat × Nat // x.2 ≤ 7}
  A := fun s => cel cb 123 #[.int .u32 (s.1.1 : Nat), .int .u32 (s.1.2 : Nat)]
  pos := fun s => s.1.1
  D := fun s l => Bx.dec s.1.1 s.1.2 l
  mS := fun w => by kernel_rfl
  mC := fun w => by kernel_rfl
  size := fun s => size5_con G _ _
  short := fun s l h => Bx.dec_short h
  len := fun s l => Bx.dec_len l.length l (Nat.le_refl _) _ _
  convS := fun s a c => convS_259 G _ a c _
  conv := fun s b o l c cs bs h1 h2 h3 h4 h5 h6 => Con.conseq (bcjConv_con G cb s.1.1 s.1.2 b o l c cs bs h1 h2 h3 h4 h5 h6 s.2) fun F w hw => ⟨F, hw, by
    rintro ⟨⟨p, m, out, cs2⟩, k1, k2, k3, k4⟩ w' hw'
    dsimp only at k1 k2 k3 k4 hw' ⊢
    have hl := k1.len
    refine ⟨⟨(⟨(s.1.1 + p, m), k1.m7⟩, out, cs2), by dsimp only; rw [hl]; exact k1.le, by dsimp only; omega, by dsimp only; rw [hl]; exact k3, k4, by dsimp only; omega, by dsimp only; rw [hl]; exact k1.eq⟩, by dsimp only; rw [hl], hw'⟩⟩
def ppcCv (G : Gst) (cb : Nat) : Cv G where
  t := 137
  u := .pointer (some ⟨cb, 0, none⟩)
  fS := 203
  fC := 263
  sz := 4
  hsz := by decide
  σ := {p : Nat // p % 4 = 0}
  A := fun s => cel cb 139 #[.int .u32 (s.1 : Nat)]
  pos := fun s => s.1
  D := fun s l => Bx.wmap Bx.ppcD s.1 l
  mS := fun w => by kernel_rfl
  mC := fun w => by kernel_rfl
  size := fun s => size4_203 G _ _
  short := fun s l h => Bx.wmap_short h
  len := fun s l => Bx.wmap_len _ l.length l (Nat.le_refl _) _
  convS := fun s a c => convS_263 G _ a c _
  conv := fun s b o l c cs bs h1 h2 h3 h4 h5 h6 => Con.conseq (ppcConv_con G cb s.1 b o l c cs bs h1 h2 h3 h4 h5 ⟨s.2, h6⟩) fun F w hw => ⟨F, hw, by
    rintro ⟨⟨p, out, cs2⟩, k1, k2, k3, k4⟩ w' hw'
    dsimp only at k1 k2 k3 k4 hw' ⊢
    have hl := k1.len
    have hs := s.2
    have hm := k1.mod
    have hz : armV (s.1 + p) = s.1 + p + 4 := by unfold armV; rw [if_neg (by omega)]
    refine ⟨⟨(⟨s.1 + p, by omega⟩, out, cs2), by dsimp only; rw [hl]; exact k1.le, by dsimp only; omega, by dsimp only; rw [hl]; exact k3, k4, by dsimp only; omega, by dsimp only; rw [hl]; exact k1.eq⟩, by dsimp only; rw [hl], hw'⟩⟩
def armCv (G : Gst) (cb : Nat) : Cv G where
  t := 140
  u := .pointer (some ⟨cb, 0, none⟩)
  fS := 204
  fC := 266
  sz := 4
  hsz := by decide
  σ := {p : Nat // p % 4 = 0}
  A := fun s => cel cb 141 #[.int .u32 (armV s.1 : Nat)]
  pos := fun s => s.1
  D := fun s l => Bx.wmap Bx.armD s.1 l
  mS := fun w => by kernel_rfl
  mC := fun w => by kernel_rfl
  size := fun s => size4_204 G _ _
  short := fun s l h => Bx.wmap_short h
  len := fun s l => Bx.wmap_len _ l.length l (Nat.le_refl _) _
  convS := fun s a c => convS_266 G _ a c _
  conv := fun s b o l c cs bs h1 h2 h3 h4 h5 h6 => Con.conseq (armConv_con G cb s.1 b o l c cs bs h1 h2 h3 h4 h5 ⟨s.2, h6⟩) fun F w hw => ⟨F, hw, by
    rintro ⟨⟨p, out, cs2⟩, k1, k2, k3, k4⟩ w' hw'
    dsimp only at k1 k2 k3 k4 hw' ⊢
    have hl := k1.len
    have hs := s.2
    have hm := k1.mod
    have hz : armV (s.1 + p) = s.1 + p + 4 := by unfold armV; rw [if_neg (by omega)]
    refine ⟨⟨(⟨s.1 + p, by omega⟩, out, cs2), by dsimp only; rw [hl]; exact k1.le, by dsimp only; omega, by dsimp only; rw [hl]; exact k3, k4, by dsimp only; omega, by dsimp only; rw [hl]; exact k1.eq⟩, by dsimp only; rw [hl], by rw [hz]; exact hw'⟩⟩
def spCv (G : Gst) (cb : Nat) : Cv G where
  t := 142
  u := .pointer (some ⟨cb, 0, none⟩)
  fS := 205
  fC := 267
  sz := 4
  hsz := by decide
  σ := {p : Nat // p % 4 = 0}
  A := fun s => cel cb 143 #[.int .u32 (s.1 : Nat)]
  pos := fun s => s.1
  D := fun s l => Bx.wmap Bx.spD s.1 l
  mS := fun w => by kernel_rfl
  mC := fun w => by kernel_rfl
  size := fun s => size4_205 G _ _
  short := fun s l h => Bx.wmap_short h
  len := fun s l => Bx.wmap_len _ l.length l (Nat.le_refl _) _
  convS := fun s a c => convS_267 G _ a c _
  conv := fun s b o l c cs bs h1 h2 h3 h4 h5 h6 => Con.conseq (spConv_con G cb s.1 b o l c cs bs h1 h2 h3 h4 h5 ⟨s.2, h6⟩) fun F w hw => ⟨F, hw, by
    rintro ⟨⟨p, out, cs2⟩, k1, k2, k3, k4⟩ w' hw'
    dsimp only at k1 k2 k3 k4 hw' ⊢
    have hl := k1.len
    have hs := s.2
    have hm := k1.mod
    have hz : armV (s.1 + p) = s.1 + p + 4 := by unfold armV; rw [if_neg (by omega)]
    refine ⟨⟨(⟨s.1 + p, by omega⟩, out, cs2), by dsimp only; rw [hl]; exact k1.le, by dsimp only; omega, by dsimp only; rw [hl]; exact k3, k4, by dsimp only; omega, by dsimp only; rw [hl]; exact k1.eq⟩, by dsimp only; rw [hl], hw'⟩⟩
theorem Sat.bu0 {G : Gst} {w : World} {r : List Asn} {rb : Nat} {Rv cv : Value} {n : Nat} (hw : Sat G w (RcA rb Rv (.slice none 0 0) 0 0 n cv :: r)) : Sat G w (BuS rb Rv n cv [] 0 :: r) := by
  have h2 : Sat G w (RcA rb Rv (.slice none 0 0) 0 0 n cv :: (fun h => h = fun _ => none) :: r) := hw.of fun hs => by
    obtain ⟨h1, h2, hd, e, hA, hB⟩ := hs
    exact ⟨h1, h2, hd, e, hA, fun _ => none, h2, fun _ => .inl rfl, by funext k; simp [Hp.un], rfl, hB⟩
  exact Sat.shuts (f := fun g : {g : BG // g.Ok [] 0} => g.1.cells rb Rv n cv) ⟨⟨none, 0, 0, 0, 0, #[]⟩, rfl, by decide, Nat.le_refl _, fun _ => ⟨rfl, rfl⟩, fun b h => (by cases h)⟩ h2
theorem newFlt_con (G : Gst) (rb rc r : Nat) (rcur : Array Value) (hr0 : rcur[0]? = some (rdV r)) (t : TypeId) (u : Value) :
    Con Tryz.prog G 53 #[.slice (some ⟨rb, 0, none⟩) 1 rc, .iface t u] [cel rb 90 rcur] (fun x : Nat => .tuple #[.iface 176 (.pointer (some ⟨x, 0, none⟩)), .nilIface]) (fun x => [RcA x (rdV r) (.slice none 0 0) 0 0 0 (.iface t u)]) := by
  refine Con.intro Tryz.func53 rfl (by kernel_rfl) Tryz.ntmps53 (Nat.le_of_ble_eq_true rfl) ?_
  intro F
  show JC _ _ _ _ _ _ [(0, _), (1, _)] _ [_, _]
  refine sR ?_
  refine oC ?_
  refine oC ?_
  refine nC (JC.seq (sR ?_))
  refine oM ?_
  refine JO.py (Py.lenS Tryz.underlying84 xe) ?_
  first | refine oD (Py.neq xe ev_const) ?_ | refine oU (Py.neq xe ev_const) ?_ | refine JO.py (Py.neq xe ev_const) ?_
  refine nC ?_
  refine cF ?_
  refine JC.skip (JX.code (sR ?_))
  refine oM ?_
  refine JO.py (Py.idxS Tryz.underlying84 siz90 xe ev_const (by omega) xidx xmult) ?_
  refine JO.py (Py.load scal90 xe xpick xrow) ?_
  refine oM ?_
  refine JO.py (Py.build bld178 (Pts.cons xe (Pts.cons xe Pts.nil)) xfl) ?_
  refine JO.boxA xe ?_; intro b15
  refine JO.py (Py.mki mki176 xe) ?_
  refine oA ?_
  refine oC ?_
  refine nC (JC.ret ?_)
  refine JX.end2 (Or.inl rfl) (b15) Tryz.results53 (tup2 ((xe).trans (by first | exact xval | (dsimp only; exact xval))) ((xe).trans (by first | exact xval | (dsimp only; exact xval)))) xpkE
def src0 (G : Gst) (ea : Addr) (eT : TypeId) (ef : Nat × Nat) (bs : List Nat) (hb : Bx.Byte bs) (hl : bs.length ≤ 3000) (x : Nat × Nat × Nat × Value) : RdSrc G ea eT ef := fRd G ea eT ef (bcjCv G x.1) x.2.1 x.2.2.1 x.2.2.2 (encK 0 bs) bs (encK_byte 0 bs hb) (by rw [encK_len]; omega) (by omega) ⟨(0, 0), by decide⟩ rfl (decK0 bs hb)
theorem new0_con (G : Gst) (ea : Addr) (eT : TypeId) (ef : Nat × Nat) (bs : List Nat) (hb : Bx.Byte bs) (hl : bs.length ≤ 3000) (A : Asn) (pv sv : Value) (z rb rc r : Nat) (rcur : Array Value) (hr0 : rcur[0]? = some (rdV r)) :
    Con Tryz.prog G 40 #[pv, .int .u64 (z : Int), .slice (some ⟨rb, 0, none⟩) 1 rc] [A, cel rb 90 rcur, BrA r sv 0 (-1), Row 5 sv (u8s (encK 0 bs)), EofA ea eT ef]
      (fun x : Nat × Nat × Nat × Value => .tuple #[.iface (src0 G ea eT ef bs hb hl x).t (src0 G ea eT ef bs hb hl x).u, .nilIface]) (fun x => [(src0 G ea eT ef bs hb hl x).A (src0 G ea eT ef bs hb hl x).s0, EofA ea eT ef]) := by
  refine Con.intro Tryz.func40 rfl (by kernel_rfl) Tryz.ntmps40 (Nat.le_of_ble_eq_true rfl) ?_
  intro F
  show JC _ _ _ _ _ _ [(0, _), (1, _), (2, _)] _ [_, _, _, _, _, _]
  refine sR ?_
  refine oC ?_
  refine oC ?_
  refine nC (sR ?_)
  refine oM ?_
  refine JO.allocA zer123 ?_; intro b9
  refine JO.py (Py.mki mki121 xe) ?_
  refine JO.call (Evs.cons xe (Evs.cons xe Evs.nil)) (newFlt_con G rb rc r rcur hr0 121 (.pointer (some ⟨b9, 0, none⟩))) xpkE ?_
  rintro x
  show JO _ _ _ _ _ _ _ ((11, _) :: _) _ (_ :: _ :: _)
  refine JO.py (Py.extrI xe xix) ?_
  refine JO.py (Py.extrI xe xix) ?_
  refine oA ?_
  refine oA ?_
  refine nC (JC.ret ?_)
  refine JX.sat (As' := (src0 G ea eT ef bs hb hl (b9, x, r, sv)).A (src0 G ea eT ef bs hb hl (b9, x, r, sv)).s0 :: EofA ea eT ef :: F :: []) (fun w hw => ?_) ?_
  · have h1 : Sat G w [RcA x (rdV r) (.slice none 0 0) 0 0 0 (.iface 121 (.pointer (some ⟨b9, 0, none⟩))), cel b9 123 #[.int .u32 0, .int .u32 0], BrA r sv 0 (-1), Row 5 sv (u8s (encK 0 bs)), EofA ea eT ef, F] := Sat.get hw xpkE
    have h2 := Sat.bu0 h1
    have h3 : Sat G w [BrA r sv 0 (-1), Row 5 sv (u8s (encK 0 bs)), BuS x (rdV r) 0 (.iface 121 (.pointer (some ⟨b9, 0, none⟩))) [] 0, cel b9 123 #[.int .u32 0, .int .u32 0], EofA ea eT ef, F] := Sat.get h2 xpkE
    have h4 : Sat G w (SrcA r sv (encK 0 bs) 0 :: [BuS x (rdV r) 0 (.iface 121 (.pointer (some ⟨b9, 0, none⟩))) [] 0, cel b9 123 #[.int .u32 0, .int .u32 0], EofA ea eT ef, F]) := Sat.shuts (f := fun p : Int => [BrA r sv 0 p, Row 5 sv (u8s (encK 0 bs))]) (-1) h3
    have h5 : Sat G w [BuS x (rdV r) 0 (.iface 121 (.pointer (some ⟨b9, 0, none⟩))) [] 0, SrcA r sv (encK 0 bs) 0, cel b9 123 #[.int .u32 0, .int .u32 0], EofA ea eT ef, F] := Sat.get h4 xpkE
    exact Sat.shuts (f := fun _ : Unit => [BuS x (rdV r) 0 (.iface 121 (.pointer (some ⟨b9, 0, none⟩))) [] 0, SrcA r sv (encK 0 bs) 0, cel b9 123 #[.int .u32 0, .int .u32 0]]) () h5
  refine JX.end2 (Or.inl rfl) ((b9, x, r, sv)) Tryz.results40 (tup2 ((xe).trans (by rfl)) ((xe).trans (by rfl))) xpkE
def src1 (G : Gst) (ea : Addr) (eT : TypeId) (ef : Nat × Nat) (bs : List Nat) (hb : Bx.Byte bs) (hl : bs.length ≤ 3000) (x : Nat × Nat × Nat × Value) : RdSrc G ea eT ef := fRd G ea eT ef (ppcCv G x.1) x.2.1 x.2.2.1 x.2.2.2 (encK 1 bs) bs (encK_byte 1 bs hb) (by rw [encK_len]; omega) (by omega) ⟨0, rfl⟩ rfl (decK1 bs hb)
theorem new1_con (G : Gst) (ea : Addr) (eT : TypeId) (ef : Nat × Nat) (bs : List Nat) (hb : Bx.Byte bs) (hl : bs.length ≤ 3000) (A : Asn) (pv sv : Value) (z rb rc r : Nat) (rcur : Array Value) (hr0 : rcur[0]? = some (rdV r)) :
    Con Tryz.prog G 42 #[pv, .int .u64 (z : Int), .slice (some ⟨rb, 0, none⟩) 1 rc] [A, cel rb 90 rcur, BrA r sv 0 (-1), Row 5 sv (u8s (encK 1 bs)), EofA ea eT ef]
      (fun x : Nat × Nat × Nat × Value => .tuple #[.iface (src1 G ea eT ef bs hb hl x).t (src1 G ea eT ef bs hb hl x).u, .nilIface]) (fun x => [(src1 G ea eT ef bs hb hl x).A (src1 G ea eT ef bs hb hl x).s0, EofA ea eT ef]) := by
  refine Con.intro Tryz.func42 rfl (by kernel_rfl) Tryz.ntmps42 (Nat.le_of_ble_eq_true rfl) ?_
  intro F
  show JC _ _ _ _ _ _ [(0, _), (1, _), (2, _)] _ [_, _, _, _, _, _]
  refine sR ?_
  refine oC ?_
  refine oC ?_
  refine nC (sR ?_)
  refine oM ?_
  refine JO.allocA zer139 ?_; intro b9
  refine JO.py (Py.mki mki137 xe) ?_
  refine JO.call (Evs.cons xe (Evs.cons xe Evs.nil)) (newFlt_con G rb rc r rcur hr0 137 (.pointer (some ⟨b9, 0, none⟩))) xpkE ?_
  rintro x
  show JO _ _ _ _ _ _ _ ((11, _) :: _) _ (_ :: _ :: _)
  refine JO.py (Py.extrI xe xix) ?_
  refine JO.py (Py.extrI xe xix) ?_
  refine oA ?_
  refine oA ?_
  refine nC (JC.ret ?_)
  refine JX.sat (As' := (src1 G ea eT ef bs hb hl (b9, x, r, sv)).A (src1 G ea eT ef bs hb hl (b9, x, r, sv)).s0 :: EofA ea eT ef :: F :: []) (fun w hw => ?_) ?_
  · have h1 : Sat G w [RcA x (rdV r) (.slice none 0 0) 0 0 0 (.iface 137 (.pointer (some ⟨b9, 0, none⟩))), cel b9 139 #[.int .u32 0], BrA r sv 0 (-1), Row 5 sv (u8s (encK 1 bs)), EofA ea eT ef, F] := Sat.get hw xpkE
    have h2 := Sat.bu0 h1
    have h3 : Sat G w [BrA r sv 0 (-1), Row 5 sv (u8s (encK 1 bs)), BuS x (rdV r) 0 (.iface 137 (.pointer (some ⟨b9, 0, none⟩))) [] 0, cel b9 139 #[.int .u32 0], EofA ea eT ef, F] := Sat.get h2 xpkE
    have h4 : Sat G w (SrcA r sv (encK 1 bs) 0 :: [BuS x (rdV r) 0 (.iface 137 (.pointer (some ⟨b9, 0, none⟩))) [] 0, cel b9 139 #[.int .u32 0], EofA ea eT ef, F]) := Sat.shuts (f := fun p : Int => [BrA r sv 0 p, Row 5 sv (u8s (encK 1 bs))]) (-1) h3
    have h5 : Sat G w [BuS x (rdV r) 0 (.iface 137 (.pointer (some ⟨b9, 0, none⟩))) [] 0, SrcA r sv (encK 1 bs) 0, cel b9 139 #[.int .u32 0], EofA ea eT ef, F] := Sat.get h4 xpkE
    exact Sat.shuts (f := fun _ : Unit => [BuS x (rdV r) 0 (.iface 137 (.pointer (some ⟨b9, 0, none⟩))) [] 0, SrcA r sv (encK 1 bs) 0, cel b9 139 #[.int .u32 0]]) () h5
  refine JX.end2 (Or.inl rfl) ((b9, x, r, sv)) Tryz.results42 (tup2 ((xe).trans (by rfl)) ((xe).trans (by rfl))) xpkE
def src2 (G : Gst) (ea : Addr) (eT : TypeId) (ef : Nat × Nat) (bs : List Nat) (hb : Bx.Byte bs) (hl : bs.length ≤ 3000) (x : Nat × Nat × Nat × Value) : RdSrc G ea eT ef := fRd G ea eT ef (armCv G x.1) x.2.1 x.2.2.1 x.2.2.2 (encK 2 bs) bs (encK_byte 2 bs hb) (by rw [encK_len]; omega) (by omega) ⟨0, rfl⟩ rfl (decK2 bs hb)
theorem new2_con (G : Gst) (ea : Addr) (eT : TypeId) (ef : Nat × Nat) (bs : List Nat) (hb : Bx.Byte bs) (hl : bs.length ≤ 3000) (A : Asn) (pv sv : Value) (z rb rc r : Nat) (rcur : Array Value) (hr0 : rcur[0]? = some (rdV r)) :
    Con Tryz.prog G 43 #[pv, .int .u64 (z : Int), .slice (some ⟨rb, 0, none⟩) 1 rc] [A, cel rb 90 rcur, BrA r sv 0 (-1), Row 5 sv (u8s (encK 2 bs)), EofA ea eT ef]
      (fun x : Nat × Nat × Nat × Value => .tuple #[.iface (src2 G ea eT ef bs hb hl x).t (src2 G ea eT ef bs hb hl x).u, .nilIface]) (fun x => [(src2 G ea eT ef bs hb hl x).A (src2 G ea eT ef bs hb hl x).s0, EofA ea eT ef]) := by
  refine Con.intro Tryz.func43 rfl (by kernel_rfl) Tryz.ntmps43 (Nat.le_of_ble_eq_true rfl) ?_
  intro F
  show JC _ _ _ _ _ _ [(0, _), (1, _), (2, _)] _ [_, _, _, _, _, _]
  refine sR ?_
  refine oC ?_
  refine oC ?_
  refine nC (sR ?_)
  refine oM ?_
  refine JO.allocA zer141 ?_; intro b9
  refine JO.py (Py.mki mki140 xe) ?_
  refine JO.call (Evs.cons xe (Evs.cons xe Evs.nil)) (newFlt_con G rb rc r rcur hr0 140 (.pointer (some ⟨b9, 0, none⟩))) xpkE ?_
  rintro x
  show JO _ _ _ _ _ _ _ ((11, _) :: _) _ (_ :: _ :: _)
  refine JO.py (Py.extrI xe xix) ?_
  refine JO.py (Py.extrI xe xix) ?_
  refine oA ?_
  refine oA ?_
  refine nC (JC.ret ?_)
  refine JX.sat (As' := (src2 G ea eT ef bs hb hl (b9, x, r, sv)).A (src2 G ea eT ef bs hb hl (b9, x, r, sv)).s0 :: EofA ea eT ef :: F :: []) (fun w hw => ?_) ?_
  · have h1 : Sat G w [RcA x (rdV r) (.slice none 0 0) 0 0 0 (.iface 140 (.pointer (some ⟨b9, 0, none⟩))), cel b9 141 #[.int .u32 0], BrA r sv 0 (-1), Row 5 sv (u8s (encK 2 bs)), EofA ea eT ef, F] := Sat.get hw xpkE
    have h2 := Sat.bu0 h1
    have h3 : Sat G w [BrA r sv 0 (-1), Row 5 sv (u8s (encK 2 bs)), BuS x (rdV r) 0 (.iface 140 (.pointer (some ⟨b9, 0, none⟩))) [] 0, cel b9 141 #[.int .u32 0], EofA ea eT ef, F] := Sat.get h2 xpkE
    have h4 : Sat G w (SrcA r sv (encK 2 bs) 0 :: [BuS x (rdV r) 0 (.iface 140 (.pointer (some ⟨b9, 0, none⟩))) [] 0, cel b9 141 #[.int .u32 0], EofA ea eT ef, F]) := Sat.shuts (f := fun p : Int => [BrA r sv 0 p, Row 5 sv (u8s (encK 2 bs))]) (-1) h3
    have h5 : Sat G w [BuS x (rdV r) 0 (.iface 140 (.pointer (some ⟨b9, 0, none⟩))) [] 0, SrcA r sv (encK 2 bs) 0, cel b9 141 #[.int .u32 0], EofA ea eT ef, F] := Sat.get h4 xpkE
    exact Sat.shuts (f := fun _ : Unit => [BuS x (rdV r) 0 (.iface 140 (.pointer (some ⟨b9, 0, none⟩))) [] 0, SrcA r sv (encK 2 bs) 0, cel b9 141 #[.int .u32 0]]) () h5
  refine JX.end2 (Or.inl rfl) ((b9, x, r, sv)) Tryz.results43 (tup2 ((xe).trans (by rfl)) ((xe).trans (by rfl))) xpkE
def src3 (G : Gst) (ea : Addr) (eT : TypeId) (ef : Nat × Nat) (bs : List Nat) (hb : Bx.Byte bs) (hl : bs.length ≤ 3000) (x : Nat × Nat × Nat × Value) : RdSrc G ea eT ef := fRd G ea eT ef (spCv G x.1) x.2.1 x.2.2.1 x.2.2.2 (encK 3 bs) bs (encK_byte 3 bs hb) (by rw [encK_len]; omega) (by omega) ⟨0, rfl⟩ rfl (decK3 bs hb)
theorem new3_con (G : Gst) (ea : Addr) (eT : TypeId) (ef : Nat × Nat) (bs : List Nat) (hb : Bx.Byte bs) (hl : bs.length ≤ 3000) (A : Asn) (pv sv : Value) (z rb rc r : Nat) (rcur : Array Value) (hr0 : rcur[0]? = some (rdV r)) :
    Con Tryz.prog G 44 #[pv, .int .u64 (z : Int), .slice (some ⟨rb, 0, none⟩) 1 rc] [A, cel rb 90 rcur, BrA r sv 0 (-1), Row 5 sv (u8s (encK 3 bs)), EofA ea eT ef]
      (fun x : Nat × Nat × Nat × Value => .tuple #[.iface (src3 G ea eT ef bs hb hl x).t (src3 G ea eT ef bs hb hl x).u, .nilIface]) (fun x => [(src3 G ea eT ef bs hb hl x).A (src3 G ea eT ef bs hb hl x).s0, EofA ea eT ef]) := by
  refine Con.intro Tryz.func44 rfl (by kernel_rfl) Tryz.ntmps44 (Nat.le_of_ble_eq_true rfl) ?_
  intro F
  show JC _ _ _ _ _ _ [(0, _), (1, _), (2, _)] _ [_, _, _, _, _, _]
  refine sR ?_
  refine oC ?_
  refine oC ?_
  refine nC (sR ?_)
  refine oM ?_
  refine JO.allocA zer143 ?_; intro b9
  refine JO.py (Py.mki mki142 xe) ?_
  refine JO.call (Evs.cons xe (Evs.cons xe Evs.nil)) (newFlt_con G rb rc r rcur hr0 142 (.pointer (some ⟨b9, 0, none⟩))) xpkE ?_
  rintro x
  show JO _ _ _ _ _ _ _ ((11, _) :: _) _ (_ :: _ :: _)
  refine JO.py (Py.extrI xe xix) ?_
  refine JO.py (Py.extrI xe xix) ?_
  refine oA ?_
  refine oA ?_
  refine nC (JC.ret ?_)
  refine JX.sat (As' := (src3 G ea eT ef bs hb hl (b9, x, r, sv)).A (src3 G ea eT ef bs hb hl (b9, x, r, sv)).s0 :: EofA ea eT ef :: F :: []) (fun w hw => ?_) ?_
  · have h1 : Sat G w [RcA x (rdV r) (.slice none 0 0) 0 0 0 (.iface 142 (.pointer (some ⟨b9, 0, none⟩))), cel b9 143 #[.int .u32 0], BrA r sv 0 (-1), Row 5 sv (u8s (encK 3 bs)), EofA ea eT ef, F] := Sat.get hw xpkE
    have h2 := Sat.bu0 h1
    have h3 : Sat G w [BrA r sv 0 (-1), Row 5 sv (u8s (encK 3 bs)), BuS x (rdV r) 0 (.iface 142 (.pointer (some ⟨b9, 0, none⟩))) [] 0, cel b9 143 #[.int .u32 0], EofA ea eT ef, F] := Sat.get h2 xpkE
    have h4 : Sat G w (SrcA r sv (encK 3 bs) 0 :: [BuS x (rdV r) 0 (.iface 142 (.pointer (some ⟨b9, 0, none⟩))) [] 0, cel b9 143 #[.int .u32 0], EofA ea eT ef, F]) := Sat.shuts (f := fun p : Int => [BrA r sv 0 p, Row 5 sv (u8s (encK 3 bs))]) (-1) h3
    have h5 : Sat G w [BuS x (rdV r) 0 (.iface 142 (.pointer (some ⟨b9, 0, none⟩))) [] 0, SrcA r sv (encK 3 bs) 0, cel b9 143 #[.int .u32 0], EofA ea eT ef, F] := Sat.get h4 xpkE
    exact Sat.shuts (f := fun _ : Unit => [BuS x (rdV r) 0 (.iface 142 (.pointer (some ⟨b9, 0, none⟩))) [] 0, SrcA r sv (encK 3 bs) 0, cel b9 143 #[.int .u32 0]]) () h5
  refine JX.end2 (Or.inl rfl) ((b9, x, r, sv)) Tryz.results44 (tup2 ((xe).trans (by rfl)) ((xe).trans (by rfl))) xpkE
set_option maxRecDepth 100000 in
theorem impl0_con (G : Gst) (ea : Addr) (eT : TypeId) (ef : Nat × Nat) (bv : Value) (bs : List Nat) (hb : Bx.Byte bs) (hl : bs.length ≤ 3000) :
    Con Tryz.prog G 12 #[.int .i64 ((0 : Nat) : Int), bv] [Row 5 bv (u8s (encK 0 bs)), EofA ea eT ef] (fun v : Value => .tuple #[v, .bool true]) (fun v => [Row 5 v (u8s bs), EofA ea eT ef]) := by
  refine Con.intro Tryz.func12 rfl (by kernel_rfl) Tryz.ntmps12 (Nat.le_of_ble_eq_true rfl) ?_
  intro F
  show JC _ _ _ _ _ _ [(0, _), (1, _)] _ [_, _, _]
  refine JC.rowV (e := 5) (v := bv) (xs := u8s (encK 0 bs)) xpick ?_
  rintro ba bc rfl -
  rw [u8s_len, encK_len]
  refine sR ?_
  refine oC ?_
  refine oC ?_
  refine nC (sR ?_)
  refine JO.bslice Tryz.underlying22 elm5 (Evs.cons ev_const (Evs.cons ev_const (Evs.cons ev_const (Evs.cons ev_const Evs.nil)))) rfl rfl (by first | (simp [Value.oneCell']; done) | (simp only [List.mem_cons, List.not_mem_nil, or_false, forall_eq]; assumption) | fail) (by decide) ?_; intro b7
  refine JO.bslice Tryz.underlying22 elm5 (Evs.cons ev_const (Evs.cons ev_const (Evs.cons ev_const (Evs.cons ev_const Evs.nil)))) rfl rfl (by first | (simp [Value.oneCell']; done) | (simp only [List.mem_cons, List.not_mem_nil, or_false, forall_eq]; assumption) | fail) (by decide) ?_; intro b8
  refine JO.bslice Tryz.underlying22 elm5 (Evs.cons ev_const (Evs.cons ev_const (Evs.cons ev_const (Evs.cons ev_const Evs.nil)))) rfl rfl (by first | (simp [Value.oneCell']; done) | (simp only [List.mem_cons, List.not_mem_nil, or_false, forall_eq]; assumption) | fail) (by decide) ?_; intro b9
  refine JO.bslice Tryz.underlying22 elm5 (Evs.cons ev_const (Evs.cons ev_const (Evs.cons ev_const (Evs.cons ev_const Evs.nil)))) rfl rfl (by first | (simp [Value.oneCell']; done) | (simp only [List.mem_cons, List.not_mem_nil, or_false, forall_eq]; assumption) | fail) (by decide) ?_; intro b10
  refine JO.bslice Tryz.underlying22 elm5 (Evs.cons ev_const Evs.nil) rfl rfl (by first | (simp [Value.oneCell']; done) | (simp only [List.mem_cons, List.not_mem_nil, or_false, forall_eq]; assumption) | fail) (by decide) ?_; intro b11
  refine JO.bslice Tryz.underlying68 elm22 (Evs.cons xe (Evs.cons xe (Evs.cons xe (Evs.cons xe (Evs.cons xe Evs.nil))))) rfl rfl (by first | (simp [Value.oneCell']; done) | (simp only [List.mem_cons, List.not_mem_nil, or_false, forall_eq]; assumption) | fail) (by decide) ?_; intro b12
  refine oA ?_
  refine nC (JC.seq (sR ?_))
  refine oM ?_
  first | refine oD (Py.lss xe ev_const) ?_ | refine oU (Py.lss xe ev_const) ?_ | refine JO.py (Py.lss xe ev_const) ?_
  refine oM ?_
  first | (refine gF ?_; (refine oM ?_)) | refine kT ?_ | refine JO.skipU rfl (Lk.ev (v := undef) xlk rfl) ?_
  first | (refine gF ?_; (refine oM ?_)) | refine kT ?_ | refine JO.skipU rfl (Lk.ev (v := undef) xlk rfl) ?_
  first | (refine gF ?_; (refine JO.py (Py.lenS Tryz.underlying68 xe) ?_)) | refine kT ?_ | refine JO.skipU rfl (Lk.ev (v := undef) xlk rfl) ?_
  first | (refine gF ?_; (first | refine oD (Py.geq xe xe) ?_ | refine oU (Py.geq xe xe) ?_ | refine JO.py (Py.geq xe xe) ?_)) | refine kT ?_ | refine JO.skipU rfl (Lk.ev (v := undef) xlk rfl) ?_
  first | refine JO.py (Py.pickT xe ev_const) ?_ | refine JO.py (Py.pickF xe xe) ?_
  refine nC ?_
  refine cF ?_
  refine JC.skip (JX.code (sR ?_))
  refine oM ?_
  refine oM ?_
  refine JO.py (Py.idxS (j := 0) Tryz.underlying68 siz22 xe xe (by omega) (by omega) xmult) ?_
  refine JO.py (Py.load scal22 xe xpick xrow) ?_
  refine oM ?_
  refine JO.py (Py.lenS Tryz.underlying22 xe) ?_
  refine oM ?_
  refine JO.free (A := Row 5 (.slice none 0 0) (u8s [])) (.inl ⟨rfl, rfl⟩) ?_
  refine JO.as (A := cel b7 5 #[.int .u8 3, .int .u8 3, .int .u8 1, .int .u8 3]) (A' := cel b7 5 (u8s [3, 3, 1, 3]).toArray) xpick (rfl) ?_
  refine JO.call (Evs.cons xe (Evs.cons ev_const (Evs.cons xe (Evs.cons xe Evs.nil)))) (method_con G ea eT ef b7 [3, 3, 1, 3] 4 rfl (by decide) 40 (.inr (.inr (.inl ⟨rfl, rfl⟩))) (.slice none 0 0) (.slice ba bs.length bc) bs.length (by omega) (encK 0 bs) (encK_byte 0 bs hb) (by rw [encK_len]; omega) (Row 5 (.slice none 0 0) (u8s [])) (src0 G ea eT ef bs hb hl) bs (fun _ => rfl) (by omega) hb (fun sv rb rc r rcur hr0 => new0_con G ea eT ef bs hb hl _ _ sv bs.length rb rc r rcur hr0)) xpkE ?_
  rintro v
  show JO _ _ _ _ _ _ _ ((28, _) :: _) _ (_ :: _ :: _ :: _)
  refine JO.py (Py.extrI xe xix) ?_
  refine JO.py (Py.extrI xe xix) ?_
  refine oA ?_
  refine oA ?_
  refine nC (JC.ret ?_)
  refine JX.end2 (Or.inl rfl) (v) Tryz.results12 (tup2 ((xe).trans (by first | exact xval | (dsimp only; exact xval))) ((xe).trans (by first | exact xval | (dsimp only; exact xval)))) xpkE
set_option maxRecDepth 100000 in
theorem impl1_con (G : Gst) (ea : Addr) (eT : TypeId) (ef : Nat × Nat) (bv : Value) (bs : List Nat) (hb : Bx.Byte bs) (hl : bs.length ≤ 3000) :
    Con Tryz.prog G 12 #[.int .i64 ((1 : Nat) : Int), bv] [Row 5 bv (u8s (encK 1 bs)), EofA ea eT ef] (fun v : Value => .tuple #[v, .bool true]) (fun v => [Row 5 v (u8s bs), EofA ea eT ef]) := by
  refine Con.intro Tryz.func12 rfl (by kernel_rfl) Tryz.ntmps12 (Nat.le_of_ble_eq_true rfl) ?_
  intro F
  show JC _ _ _ _ _ _ [(0, _), (1, _)] _ [_, _, _]
  refine JC.rowV (e := 5) (v := bv) (xs := u8s (encK 1 bs)) xpick ?_
  rintro ba bc rfl -
  rw [u8s_len, encK_len]
  refine sR ?_
  refine oC ?_
  refine oC ?_
  refine nC (sR ?_)
  refine JO.bslice Tryz.underlying22 elm5 (Evs.cons ev_const (Evs.cons ev_const (Evs.cons ev_const (Evs.cons ev_const Evs.nil)))) rfl rfl (by first | (simp [Value.oneCell']; done) | (simp only [List.mem_cons, List.not_mem_nil, or_false, forall_eq]; assumption) | fail) (by decide) ?_; intro b7
  refine JO.bslice Tryz.underlying22 elm5 (Evs.cons ev_const (Evs.cons ev_const (Evs.cons ev_const (Evs.cons ev_const Evs.nil)))) rfl rfl (by first | (simp [Value.oneCell']; done) | (simp only [List.mem_cons, List.not_mem_nil, or_false, forall_eq]; assumption) | fail) (by decide) ?_; intro b8
  refine JO.bslice Tryz.underlying22 elm5 (Evs.cons ev_const (Evs.cons ev_const (Evs.cons ev_const (Evs.cons ev_const Evs.nil)))) rfl rfl (by first | (simp [Value.oneCell']; done) | (simp only [List.mem_cons, List.not_mem_nil, or_false, forall_eq]; assumption) | fail) (by decide) ?_; intro b9
  refine JO.bslice Tryz.underlying22 elm5 (Evs.cons ev_const (Evs.cons ev_const (Evs.cons ev_const (Evs.cons ev_const Evs.nil)))) rfl rfl (by first | (simp [Value.oneCell']; done) | (simp only [List.mem_cons, List.not_mem_nil, or_false, forall_eq]; assumption) | fail) (by decide) ?_; intro b10
  refine JO.bslice Tryz.underlying22 elm5 (Evs.cons ev_const Evs.nil) rfl rfl (by first | (simp [Value.oneCell']; done) | (simp only [List.mem_cons, List.not_mem_nil, or_false, forall_eq]; assumption) | fail) (by decide) ?_; intro b11
  refine JO.bslice Tryz.underlying68 elm22 (Evs.cons xe (Evs.cons xe (Evs.cons xe (Evs.cons xe (Evs.cons xe Evs.nil))))) rfl rfl (by first | (simp [Value.oneCell']; done) | (simp only [List.mem_cons, List.not_mem_nil, or_false, forall_eq]; assumption) | fail) (by decide) ?_; intro b12
  refine oA ?_
  refine nC (JC.seq (sR ?_))
  refine oM ?_
  first | refine oD (Py.lss xe ev_const) ?_ | refine oU (Py.lss xe ev_const) ?_ | refine JO.py (Py.lss xe ev_const) ?_
  refine oM ?_
  first | (refine gF ?_; (refine oM ?_)) | refine kT ?_ | refine JO.skipU rfl (Lk.ev (v := undef) xlk rfl) ?_
  first | (refine gF ?_; (refine oM ?_)) | refine kT ?_ | refine JO.skipU rfl (Lk.ev (v := undef) xlk rfl) ?_
  first | (refine gF ?_; (refine JO.py (Py.lenS Tryz.underlying68 xe) ?_)) | refine kT ?_ | refine JO.skipU rfl (Lk.ev (v := undef) xlk rfl) ?_
  first | (refine gF ?_; (first | refine oD (Py.geq xe xe) ?_ | refine oU (Py.geq xe xe) ?_ | refine JO.py (Py.geq xe xe) ?_)) | refine kT ?_ | refine JO.skipU rfl (Lk.ev (v := undef) xlk rfl) ?_
  first | refine JO.py (Py.pickT xe ev_const) ?_ | refine JO.py (Py.pickF xe xe) ?_
  refine nC ?_
  refine cF ?_
  refine JC.skip (JX.code (sR ?_))
  refine oM ?_
  refine oM ?_
  refine JO.py (Py.idxS (j := 1) Tryz.underlying68 siz22 xe xe (by omega) (by omega) xmult) ?_
  refine JO.py (Py.load scal22 xe xpick xrow) ?_
  refine oM ?_
  refine JO.py (Py.lenS Tryz.underlying22 xe) ?_
  refine oM ?_
  refine JO.free (A := Row 5 (.slice none 0 0) (u8s [])) (.inl ⟨rfl, rfl⟩) ?_
  refine JO.as (A := cel b8 5 #[.int .u8 3, .int .u8 3, .int .u8 2, .int .u8 5]) (A' := cel b8 5 (u8s [3, 3, 2, 5]).toArray) xpick (rfl) ?_
  refine JO.call (Evs.cons xe (Evs.cons ev_const (Evs.cons xe (Evs.cons xe Evs.nil)))) (method_con G ea eT ef b8 [3, 3, 2, 5] 4 rfl (by decide) 42 (.inr (.inr (.inr (.inl ⟨rfl, rfl⟩)))) (.slice none 0 0) (.slice ba bs.length bc) bs.length (by omega) (encK 1 bs) (encK_byte 1 bs hb) (by rw [encK_len]; omega) (Row 5 (.slice none 0 0) (u8s [])) (src1 G ea eT ef bs hb hl) bs (fun _ => rfl) (by omega) hb (fun sv rb rc r rcur hr0 => new1_con G ea eT ef bs hb hl _ _ sv bs.length rb rc r rcur hr0)) xpkE ?_
  rintro v
  show JO _ _ _ _ _ _ _ ((28, _) :: _) _ (_ :: _ :: _ :: _)
  refine JO.py (Py.extrI xe xix) ?_
  refine JO.py (Py.extrI xe xix) ?_
  refine oA ?_
  refine oA ?_
  refine nC (JC.ret ?_)
  refine JX.end2 (Or.inl rfl) (v) Tryz.results12 (tup2 ((xe).trans (by first | exact xval | (dsimp only; exact xval))) ((xe).trans (by first | exact xval | (dsimp only; exact xval)))) xpkE
set_option maxRecDepth 100000 in
theorem impl2_con (G : Gst) (ea : Addr) (eT : TypeId) (ef : Nat × Nat) (bv : Value) (bs : List Nat) (hb : Bx.Byte bs) (hl : bs.length ≤ 3000) :
    Con Tryz.prog G 12 #[.int .i64 ((2 : Nat) : Int), bv] [Row 5 bv (u8s (encK 2 bs)), EofA ea eT ef] (fun v : Value => .tuple #[v, .bool true]) (fun v => [Row 5 v (u8s bs), EofA ea eT ef]) := by
  refine Con.intro Tryz.func12 rfl (by kernel_rfl) Tryz.ntmps12 (Nat.le_of_ble_eq_true rfl) ?_
  intro F
  show JC _ _ _ _ _ _ [(0, _), (1, _)] _ [_, _, _]
  refine JC.rowV (e := 5) (v := bv) (xs := u8s (encK 2 bs)) xpick ?_
  rintro ba bc rfl -
  rw [u8s_len, encK_len]
  refine sR ?_
  refine oC ?_
  refine oC ?_
  refine nC (sR ?_)
  refine JO.bslice Tryz.underlying22 elm5 (Evs.cons ev_const (Evs.cons ev_const (Evs.cons ev_const (Evs.cons ev_const Evs.nil)))) rfl rfl (by first | (simp [Value.oneCell']; done) | (simp only [List.mem_cons, List.not_mem_nil, or_false, forall_eq]; assumption) | fail) (by decide) ?_; intro b7
  refine JO.bslice Tryz.underlying22 elm5 (Evs.cons ev_const (Evs.cons ev_const (Evs.cons ev_const (Evs.cons ev_const Evs.nil)))) rfl rfl (by first | (simp [Value.oneCell']; done) | (simp only [List.mem_cons, List.not_mem_nil, or_false, forall_eq]; assumption) | fail) (by decide) ?_; intro b8
  refine JO.bslice Tryz.underlying22 elm5 (Evs.cons ev_const (Evs.cons ev_const (Evs.cons ev_const (Evs.cons ev_const Evs.nil)))) rfl rfl (by first | (simp [Value.oneCell']; done) | (simp only [List.mem_cons, List.not_mem_nil, or_false, forall_eq]; assumption) | fail) (by decide) ?_; intro b9
  refine JO.bslice Tryz.underlying22 elm5 (Evs.cons ev_const (Evs.cons ev_const (Evs.cons ev_const (Evs.cons ev_const Evs.nil)))) rfl rfl (by first | (simp [Value.oneCell']; done) | (simp only [List.mem_cons, List.not_mem_nil, or_false, forall_eq]; assumption) | fail) (by decide) ?_; intro b10
  refine JO.bslice Tryz.underlying22 elm5 (Evs.cons ev_const Evs.nil) rfl rfl (by first | (simp [Value.oneCell']; done) | (simp only [List.mem_cons, List.not_mem_nil, or_false, forall_eq]; assumption) | fail) (by decide) ?_; intro b11
  refine JO.bslice Tryz.underlying68 elm22 (Evs.cons xe (Evs.cons xe (Evs.cons xe (Evs.cons xe (Evs.cons xe Evs.nil))))) rfl rfl (by first | (simp [Value.oneCell']; done) | (simp only [List.mem_cons, List.not_mem_nil, or_false, forall_eq]; assumption) | fail) (by decide) ?_; intro b12
  refine oA ?_
  refine nC (JC.seq (sR ?_))
  refine oM ?_
  first | refine oD (Py.lss xe ev_const) ?_ | refine oU (Py.lss xe ev_const) ?_ | refine JO.py (Py.lss xe ev_const) ?_
  refine oM ?_
  first | (refine gF ?_; (refine oM ?_)) | refine kT ?_ | refine JO.skipU rfl (Lk.ev (v := undef) xlk rfl) ?_
  first | (refine gF ?_; (refine oM ?_)) | refine kT ?_ | refine JO.skipU rfl (Lk.ev (v := undef) xlk rfl) ?_
  first | (refine gF ?_; (refine JO.py (Py.lenS Tryz.underlying68 xe) ?_)) | refine kT ?_ | refine JO.skipU rfl (Lk.ev (v := undef) xlk rfl) ?_
  first | (refine gF ?_; (first | refine oD (Py.geq xe xe) ?_ | refine oU (Py.geq xe xe) ?_ | refine JO.py (Py.geq xe xe) ?_)) | refine kT ?_ | refine JO.skipU rfl (Lk.ev (v := undef) xlk rfl) ?_
  first | refine JO.py (Py.pickT xe ev_const) ?_ | refine JO.py (Py.pickF xe xe) ?_
  refine nC ?_
  refine cF ?_
  refine JC.skip (JX.code (sR ?_))
  refine oM ?_
  refine oM ?_
  refine JO.py (Py.idxS (j := 2) Tryz.underlying68 siz22 xe xe (by omega) (by omega) xmult) ?_
  refine JO.py (Py.load scal22 xe xpick xrow) ?_
  refine oM ?_
  refine JO.py (Py.lenS Tryz.underlying22 xe) ?_
  refine oM ?_
  refine JO.free (A := Row 5 (.slice none 0 0) (u8s [])) (.inl ⟨rfl, rfl⟩) ?_
  refine JO.as (A := cel b9 5 #[.int .u8 3, .int .u8 3, .int .u8 5, .int .u8 1]) (A' := cel b9 5 (u8s [3, 3, 5, 1]).toArray) xpick (rfl) ?_
  refine JO.call (Evs.cons xe (Evs.cons ev_const (Evs.cons xe (Evs.cons xe Evs.nil)))) (method_con G ea eT ef b9 [3, 3, 5, 1] 4 rfl (by decide) 43 (.inr (.inr (.inr (.inr (.inl ⟨rfl, rfl⟩))))) (.slice none 0 0) (.slice ba bs.length bc) bs.length (by omega) (encK 2 bs) (encK_byte 2 bs hb) (by rw [encK_len]; omega) (Row 5 (.slice none 0 0) (u8s [])) (src2 G ea eT ef bs hb hl) bs (fun _ => rfl) (by omega) hb (fun sv rb rc r rcur hr0 => new2_con G ea eT ef bs hb hl _ _ sv bs.length rb rc r rcur hr0)) xpkE ?_
  rintro v
  show JO _ _ _ _ _ _ _ ((28, _) :: _) _ (_ :: _ :: _ :: _)
  refine JO.py (Py.extrI xe xix) ?_
  refine JO.py (Py.extrI xe xix) ?_
  refine oA ?_
  refine oA ?_
  refine nC (JC.ret ?_)
  refine JX.end2 (Or.inl rfl) (v) Tryz.results12 (tup2 ((xe).trans (by first | exact xval | (dsimp only; exact xval))) ((xe).trans (by first | exact xval | (dsimp only; exact xval)))) xpkE
set_option maxRecDepth 100000 in
theorem impl3_con (G : Gst) (ea : Addr) (eT : TypeId) (ef : Nat × Nat) (bv : Value) (bs : List Nat) (hb : Bx.Byte bs) (hl : bs.length ≤ 3000) :
    Con Tryz.prog G 12 #[.int .i64 ((3 : Nat) : Int), bv] [Row 5 bv (u8s (encK 3 bs)), EofA ea eT ef] (fun v : Value => .tuple #[v, .bool true]) (fun v => [Row 5 v (u8s bs), EofA ea eT ef]) := by
  refine Con.intro Tryz.func12 rfl (by kernel_rfl) Tryz.ntmps12 (Nat.le_of_ble_eq_true rfl) ?_
  intro F
  show JC _ _ _ _ _ _ [(0, _), (1, _)] _ [_, _, _]
  refine JC.rowV (e := 5) (v := bv) (xs := u8s (encK 3 bs)) xpick ?_
  rintro ba bc rfl -
  rw [u8s_len, encK_len]
  refine sR ?_
  refine oC ?_
  refine oC ?_
  refine nC (sR ?_)
  refine JO.bslice Tryz.underlying22 elm5 (Evs.cons ev_const (Evs.cons ev_const (Evs.cons ev_const (Evs.cons ev_const Evs.nil)))) rfl rfl (by first | (simp [Value.oneCell']; done) | (simp only [List.mem_cons, List.not_mem_nil, or_false, forall_eq]; assumption) | fail) (by decide) ?_; intro b7
  refine JO.bslice Tryz.underlying22 elm5 (Evs.cons ev_const (Evs.cons ev_const (Evs.cons ev_const (Evs.cons ev_const Evs.nil)))) rfl rfl (by first | (simp [Value.oneCell']; done) | (simp only [List.mem_cons, List.not_mem_nil, or_false, forall_eq]; assumption) | fail) (by decide) ?_; intro b8
  refine JO.bslice Tryz.underlying22 elm5 (Evs.cons ev_const (Evs.cons ev_const (Evs.cons ev_const (Evs.cons ev_const Evs.nil)))) rfl rfl (by first | (simp [Value.oneCell']; done) | (simp only [List.mem_cons, List.not_mem_nil, or_false, forall_eq]; assumption) | fail) (by decide) ?_; intro b9
  refine JO.bslice Tryz.underlying22 elm5 (Evs.cons ev_const (Evs.cons ev_const (Evs.cons ev_const (Evs.cons ev_const Evs.nil)))) rfl rfl (by first | (simp [Value.oneCell']; done) | (simp only [List.mem_cons, List.not_mem_nil, or_false, forall_eq]; assumption) | fail) (by decide) ?_; intro b10
  refine JO.bslice Tryz.underlying22 elm5 (Evs.cons ev_const Evs.nil) rfl rfl (by first | (simp [Value.oneCell']; done) | (simp only [List.mem_cons, List.not_mem_nil, or_false, forall_eq]; assumption) | fail) (by decide) ?_; intro b11
  refine JO.bslice Tryz.underlying68 elm22 (Evs.cons xe (Evs.cons xe (Evs.cons xe (Evs.cons xe (Evs.cons xe Evs.nil))))) rfl rfl (by first | (simp [Value.oneCell']; done) | (simp only [List.mem_cons, List.not_mem_nil, or_false, forall_eq]; assumption) | fail) (by decide) ?_; intro b12
  refine oA ?_
  refine nC (JC.seq (sR ?_))
  refine oM ?_
  first | refine oD (Py.lss xe ev_const) ?_ | refine oU (Py.lss xe ev_const) ?_ | refine JO.py (Py.lss xe ev_const) ?_
  refine oM ?_
  first | (refine gF ?_; (refine oM ?_)) | refine kT ?_ | refine JO.skipU rfl (Lk.ev (v := undef) xlk rfl) ?_
  first | (refine gF ?_; (refine oM ?_)) | refine kT ?_ | refine JO.skipU rfl (Lk.ev (v := undef) xlk rfl) ?_
  first | (refine gF ?_; (refine JO.py (Py.lenS Tryz.underlying68 xe) ?_)) | refine kT ?_ | refine JO.skipU rfl (Lk.ev (v := undef) xlk rfl) ?_
  first | (refine gF ?_; (first | refine oD (Py.geq xe xe) ?_ | refine oU (Py.geq xe xe) ?_ | refine JO.py (Py.geq xe xe) ?_)) | refine kT ?_ | refine JO.skipU rfl (Lk.ev (v := undef) xlk rfl) ?_
  first | refine JO.py (Py.pickT xe ev_const) ?_ | refine JO.py (Py.pickF xe xe) ?_
  refine nC ?_
  refine cF ?_
  refine JC.skip (JX.code (sR ?_))
  refine oM ?_
  refine oM ?_
  refine JO.py (Py.idxS (j := 3) Tryz.underlying68 siz22 xe xe (by omega) (by omega) xmult) ?_
  refine JO.py (Py.load scal22 xe xpick xrow) ?_
  refine oM ?_
  refine JO.py (Py.lenS Tryz.underlying22 xe) ?_
  refine oM ?_
  refine JO.free (A := Row 5 (.slice none 0 0) (u8s [])) (.inl ⟨rfl, rfl⟩) ?_
  refine JO.as (A := cel b10 5 #[.int .u8 3, .int .u8 3, .int .u8 8, .int .u8 5]) (A' := cel b10 5 (u8s [3, 3, 8, 5]).toArray) xpick (rfl) ?_
  refine JO.call (Evs.cons xe (Evs.cons ev_const (Evs.cons xe (Evs.cons xe Evs.nil)))) (method_con G ea eT ef b10 [3, 3, 8, 5] 4 rfl (by decide) 44 (.inr (.inr (.inr (.inr (.inr ⟨rfl, rfl⟩))))) (.slice none 0 0) (.slice ba bs.length bc) bs.length (by omega) (encK 3 bs) (encK_byte 3 bs hb) (by rw [encK_len]; omega) (Row 5 (.slice none 0 0) (u8s [])) (src3 G ea eT ef bs hb hl) bs (fun _ => rfl) (by omega) hb (fun sv rb rc r rcur hr0 => new3_con G ea eT ef bs hb hl _ _ sv bs.length rb rc r rcur hr0)) xpkE ?_
  rintro v
  show JO _ _ _ _ _ _ _ ((28, _) :: _) _ (_ :: _ :: _ :: _)
  refine JO.py (Py.extrI xe xix) ?_
  refine JO.py (Py.extrI xe xix) ?_
  refine oA ?_
  refine oA ?_
  refine nC (JC.ret ?_)
  refine JX.end2 (Or.inl rfl) (v) Tryz.results12 (tup2 ((xe).trans (by first | exact xval | (dsimp only; exact xval))) ((xe).trans (by first | exact xval | (dsimp only; exact xval)))) xpkE
theorem impl_con (G : Gst) (k : Nat) (hk : k < 4) (ea : Addr) (eT : TypeId) (ef : Nat × Nat) (bv : Value) (bs : List Nat) (hb : Bx.Byte bs) (hl : bs.length ≤ 3000) :
    Con Tryz.prog G 12 #[.int .i64 (k : Int), bv] [Row 5 bv (u8s (encK k bs)), EofA ea eT ef] (fun v : Value => .tuple #[v, .bool true]) (fun v => [Row 5 v (u8s bs), EofA ea eT ef]) := by
  obtain rfl | rfl | rfl | rfl : k = 0 ∨ k = 1 ∨ k = 2 ∨ k = 3 := by omega
  · exact impl0_con G ea eT ef bv bs hb hl
  · exact impl1_con G ea eT ef bv bs hb hl
  · exact impl2_con G ea eT ef bv bs hb hl
  · exact impl3_con G ea eT ef bv bs hb hl
end Go.Proofs.YtfpepghmbeoanaaGreatDoor
end

section
open Go Go.RowKit
namespace Go.Proofs.YtfpepghmbeoanaaGreatDoor
/-- A text that is too long: nothing is asked. -/
theorem law5_out (G : Gst) (kd : Int) (ba : Option Addr) (bl bc : Nat) (h : 3000 < bl) (hb : bl < 9223372036854775808) (hk : 0 ≤ kd ∧ kd < 256) :
    Con Tryz.prog G 5 #[.int .u8 kd, .slice ba bl bc] [] (fun _ : Unit => .bool true) (fun _ => []) := by
  refine Con.intro Tryz.func5 rfl (by kernel_rfl) Tryz.ntmps5 (Nat.le_of_ble_eq_true rfl) ?_
  intro F
  show JC _ _ _ _ _ _ [(0, _), (1, _)] _ [_]
  by_cases h1 : 2147483647 < bl
  · skip
    refine sR ?_
    refine oC ?_
    refine nC (JC.seq (sR ?_))
    refine oM ?_
    refine JO.py (Py.lenS Tryz.underlying22 xe) ?_
    first | refine oD (Py.gtr xe ev_const) ?_ | refine oU (Py.gtr xe ev_const) ?_ | refine JO.py (Py.gtr xe ev_const) ?_
    refine nC ?_
    refine cT ?_
    refine sR ?_
    refine oC ?_
    refine nC (JC.ret (JX.ret ?_))
    refine JX.end1 (Or.inl rfl) (()) Tryz.results5 ((xe).trans (by first | exact xval | (dsimp only; exact xval))) xpkE
  · skip
    refine sR ?_
    refine oC ?_
    refine nC (JC.seq (sR ?_))
    refine oM ?_
    refine JO.py (Py.lenS Tryz.underlying22 xe) ?_
    first | refine oD (Py.gtr xe ev_const) ?_ | refine oU (Py.gtr xe ev_const) ?_ | refine JO.py (Py.gtr xe ev_const) ?_
    refine nC ?_
    refine cF ?_
    refine JC.skip (JX.code (sR ?_))
    refine oM ?_
    refine JO.py (Py.rem xe ev_const (by omega) (by omega)) ?_
    first | refine JO.py (Py.conv cnv5_3 xe wI) ?_ | refine JO.py (Py.conv cnv5_3 xe rfl) ?_
    refine oA ?_
    refine nC (JC.seq (sR ?_))
    refine oM ?_
    refine JO.py (Py.lenS Tryz.underlying22 xe) ?_
    first | refine oD (Py.gtr xe ev_const) ?_ | refine oU (Py.gtr xe ev_const) ?_ | refine JO.py (Py.gtr xe ev_const) ?_
    refine nC ?_
    refine cT ?_
    refine sR ?_
    refine oC ?_
    refine nC (JC.ret (JX.ret ?_))
    refine JX.end1 (Or.inl rfl) (()) Tryz.results5 ((xe).trans (by first | exact xval | (dsimp only; exact xval))) xpkE
set_option maxRecDepth 100000 in
set_option maxHeartbeats 4000000 in
theorem law5_in (G : Gst) (kd : Nat) (hkd : kd < 256) (bb ob bl bc : Nat) (ba : Option Addr) (hba : 0 < bl → ba = some ⟨bb, ob, none⟩ ∧ bl ≤ bc) (cs : Array Value) (Tb : TypeId) (fr : Nat × Nat) (bs : List Nat) (hb : RdOk cs ob bs) (hbl : bs.length = bl) (h2 : bl ≤ 3000) (hb0 : bl = 0 → ba = none → bc = 0) (ea : Addr) (eT : TypeId) (ef : Nat × Nat) :
    Con Tryz.prog G 5 #[vu8 kd, .slice ba bl bc] [blk bb (.cells cs Tb fr), EofA ea eT ef] (fun _ : Unit => .bool true) (fun _ => [blk bb (.cells cs Tb fr), EofA ea eT ef]) := by
  have hby := hb.lt
  have hrb : ∀ j v, (u8s bs)[j]? = some v → cs[ob + j]? = some v := by
    have := hb.piece0 (m := bs.length) (Nat.le_refl _)
    rwa [List.take_length] at this
  obtain ⟨k, hk⟩ : ∃ k, kd % 4 = k := ⟨_, rfl⟩
  have hk4 : k < 4 := by omega
  refine Con.intro Tryz.func5 rfl (by kernel_rfl) Tryz.ntmps5 (Nat.le_of_ble_eq_true rfl) ?_
  intro F
  show JC _ _ _ _ _ _ [(0, _), (1, _)] _ [_, _, _]
  refine sR ?_
  refine oC ?_
  refine nC (JC.seq (sR ?_))
  refine oM ?_
  refine JO.py (Py.lenS Tryz.underlying22 xe) ?_
  first | refine oD (Py.gtr xe ev_const) ?_ | refine oU (Py.gtr xe ev_const) ?_ | refine JO.py (Py.gtr xe ev_const) ?_
  refine nC ?_
  refine cF ?_
  refine JC.skip (JX.code (sR ?_))
  refine oM ?_
  refine JO.py (Py.to (Py.rem xe ev_const (by omega) (by omega)) (v' := .int .u8 (k : Nat)) (vint (by omega))) ?_
  first | refine JO.py (Py.conv cnv5_3 xe wI) ?_ | refine JO.py (Py.conv cnv5_3 xe rfl) ?_
  refine oA ?_
  refine nC (JC.seq (sR ?_))
  refine oM ?_
  refine JO.py (Py.lenS Tryz.underlying22 xe) ?_
  first | refine oD (Py.gtr xe ev_const) ?_ | refine oU (Py.gtr xe ev_const) ?_ | refine JO.py (Py.gtr xe ev_const) ?_
  refine nC ?_
  refine cF ?_
  refine JC.skip (JX.code (sR ?_))
  refine oM ?_
  refine oM ?_
  refine oM ?_
  refine JO.call (Evs.cons xe (Evs.cons xe Evs.nil)) (spec_con G k hk4 bb ob bl bc ba hba cs Tb fr bs hb hbl h2) xpkE ?_
  rintro sv
  show JO _ _ _ _ _ _ _ ((23, _) :: _) _ (_ :: _ :: _ :: _)
  refine JO.call (Evs.cons xe (Evs.cons xe Evs.nil)) (impl_con G k hk4 ea eT ef sv bs hby (by omega)) xpkE ?_
  rintro gv
  show JO _ _ _ _ _ _ _ ((24, _) :: _) _ (_ :: _ :: _ :: _)
  refine oM ?_
  refine JO.py (Py.extrI xe xix) ?_
  refine JO.py (Py.extrI xe xix) ?_
  refine oA ?_
  refine oA ?_
  refine nC (sR ?_)
  refine JO.bslice Tryz.underlying22 elm5 (Evs.cons ev_const Evs.nil) rfl rfl (by first | (simp [Value.oneCell']; done) | (simp only [List.mem_cons, List.not_mem_nil, or_false, forall_eq]; assumption) | fail) (by decide) ?_; intro b28
  refine JO.toRow (b := b28) (e := 5) (cur := #[.int .u8 1]) (xs := u8s (encK 0 [1])) (m := 1) xpick (by rw [show encK 0 [1] = [1] from Bx.enc_short (by decide)]; rfl) (by rw [show encK 0 [1] = [1] from Bx.enc_short (by decide)]; rfl) (by decide) ?_
  refine JO.call (Evs.cons ev_const (Evs.cons xe Evs.nil)) (impl0_con G ea eT ef (.slice (some ⟨b28, 0, none⟩) 1 1) [1] (fun x hx => by rw [List.mem_singleton] at hx; omega) (by decide)) xpkE ?_
  rintro ov
  show JO _ _ _ _ _ _ _ ((29, _) :: _) _ (_ :: _ :: _ :: _)
  refine oM ?_
  refine JO.py (Py.extrI xe xix) ?_
  refine JO.py (Py.extrI xe xix) ?_
  refine oA ?_
  refine oA ?_
  refine nC (sR ?_)
  refine oM ?_
  refine oM ?_
  first | (refine gT ?_; (refine oM ?_)) | refine kF ?_ | refine JO.skipU rfl (Lk.ev (v := undef) xlk rfl) ?_
  refine JO.rowV (e := 5) (v := ov) (xs := u8s [1]) xpick ?_
  rintro oa oc hov -
  rw [show (u8s [1]).length = 1 from rfl] at hov
  subst hov
  rcases Nat.eq_zero_or_pos bl with hz | hz
  · skip
    subst hz
    obtain rfl : bs = [] := List.eq_nil_of_length_eq_zero hbl
    rw [show u8s [] = [] from rfl]
    refine JO.rowV0 (e := 5) (v := gv) xpick ?_
    rintro ga gc rfl hga
    refine gT ?_
    refine JO.py (Py.str0 Tryz.underlying22 Tryz.underlying5 Tryz.underlying9 xe hga) ?_
    first | (refine gT ?_; (refine oM ?_)) | refine kF ?_ | refine JO.skipU rfl (Lk.ev (v := undef) xlk rfl) ?_
    refine gT ?_
    refine JO.py (Py.str0 Tryz.underlying22 Tryz.underlying5 Tryz.underlying9 xe (hb0 rfl)) ?_
    refine gT ?_
    refine JO.py (Py.streq (c := true) xe xe ((str_beq (a := []) (b := []) (by simp) (by simp)).trans (decide_eq_true rfl))) ?_
    first | refine JO.py (Py.pickT xe xe) ?_ | refine JO.py (Py.pickF xe ev_const) ?_
    refine oM ?_
    first | (refine gT ?_; (refine oM ?_)) | refine kF ?_ | refine JO.skipU rfl (Lk.ev (v := undef) xlk rfl) ?_
    first | (refine gT ?_; (refine JO.py (Py.lenS Tryz.underlying22 xe) ?_)) | refine kF ?_ | refine JO.skipU rfl (Lk.ev (v := undef) xlk rfl) ?_
    first | (refine gT ?_; (first | refine oD (Py.eql xe ev_const) ?_ | refine oU (Py.eql xe ev_const) ?_ | refine JO.py (Py.eql xe ev_const) ?_)) | refine kF ?_ | refine JO.skipU rfl (Lk.ev (v := undef) xlk rfl) ?_
    first | refine JO.py (Py.pickT xe xe) ?_ | refine JO.py (Py.pickF xe ev_const) ?_
    refine oA ?_
    refine nC (JC.ret ?_)
    refine JX.end1 (Or.inl rfl) (()) Tryz.results5 ((xe).trans (by first | exact xval | (dsimp only; exact xval))) xpkE
  · skip
    obtain ⟨rfl, -⟩ := hba hz
    refine JO.unrow (e := 5) (v := gv) (xs := u8s bs) xpick (by intro h; have := congrArg List.length h; rw [u8s_len, hbl] at this; exact absurd this (by show ¬ bl = 0; omega)) ?_
    rintro gb gc gcur rfl hgr
    have hgg : ∀ j v, (u8s bs)[j]? = some v → gcur[0 + j]? = some v := fun j v h => by rw [Nat.zero_add]; exact hgr.get h
    rw [u8s_len, hbl]
    refine gT ?_
    refine JO.py (Py.str Tryz.underlying22 Tryz.underlying5 Tryz.underlying9 xe hbl hby (Reads.cel xpick hgg)) ?_
    first | (refine gT ?_; (refine oM ?_)) | refine kF ?_ | refine JO.skipU rfl (Lk.ev (v := undef) xlk rfl) ?_
    refine gT ?_
    refine JO.py (Py.str Tryz.underlying22 Tryz.underlying5 Tryz.underlying9 xe hbl hby (Reads.cel xpick hrb)) ?_
    refine gT ?_
    refine JO.py (Py.streq (c := true) xe xe ((str_beq hby hby).trans (decide_eq_true rfl))) ?_
    first | refine JO.py (Py.pickT xe xe) ?_ | refine JO.py (Py.pickF xe ev_const) ?_
    refine oM ?_
    first | (refine gT ?_; (refine oM ?_)) | refine kF ?_ | refine JO.skipU rfl (Lk.ev (v := undef) xlk rfl) ?_
    first | (refine gT ?_; (refine JO.py (Py.lenS Tryz.underlying22 xe) ?_)) | refine kF ?_ | refine JO.skipU rfl (Lk.ev (v := undef) xlk rfl) ?_
    first | (refine gT ?_; (first | refine oD (Py.eql xe ev_const) ?_ | refine oU (Py.eql xe ev_const) ?_ | refine JO.py (Py.eql xe ev_const) ?_)) | refine kF ?_ | refine JO.skipU rfl (Lk.ev (v := undef) xlk rfl) ?_
    first | refine JO.py (Py.pickT xe xe) ?_ | refine JO.py (Py.pickF xe ev_const) ?_
    refine oA ?_
    refine nC (JC.ret ?_)
    refine JX.end1 (Or.inl rfl) (()) Tryz.results5 ((xe).trans (by first | exact xval | (dsimp only; exact xval))) xpkE
end Go.Proofs.YtfpepghmbeoanaaGreatDoor
end
