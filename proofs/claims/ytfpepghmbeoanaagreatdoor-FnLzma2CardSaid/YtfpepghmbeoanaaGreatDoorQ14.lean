/-
The reference's LZMA2.
LZMA2's reader is made.
LZMA2 as a reader; the thin package's call.
FnLzma2: the law's walk.
-/
import Derived.Test.YtfpepghmbeoanaaGreatDoorQ12
import Derived.Test.YtfpepghmbeoanaaGreatDoorQ13
set_option linter.unusedSimpArgs false
set_option linter.unusedVariables false
section
open Go Go.RowKit
namespace Go.Proofs.YtfpepghmbeoanaaGreatDoor
open Lz
section
variable {P : Program} {G : Gst} {n : Nat} {base : Nat → Value} {L : List (Nat × Value)} {As r l1 l2 : List Asn}
theorem Py.slcU {t e : TypeId} {x : Operand} {sz b o len cap l h : Nat} {lo hi : Option Operand} (ht : P.underlying t = some (.slice e)) (hz : Siz P e sz) (hx : ev n base L x = .slice (some ⟨b, o, none⟩) len cap) (hlo : Bd n base L 0 lo l) (hhi : Bd n base L len hi h) (hl : l ≤ h) (hh : h ≤ cap) :
    Py P G n base L As (.slice t x lo hi none) (.slice (some ⟨b, if cap = l then o else o + l * sz, none⟩) (h - l) (cap - l)) := by
  refine ⟨fun w _ o' ho => ?_⟩
  have := run_slc (P := P) (w := w) ht hz hlo hhi hl hh (b := b) (o := o)
  simp [execOp, ho, hx, this]
theorem Py.loadR {t : TypeId} {x : Operand} {b i : Nat} {v : Value} (hs : Scal P t) (h : ev n base L x = .pointer (some ⟨b, i, none⟩)) (hr : ∀ w, Sat G w As → w.cell? ⟨b, i, none⟩ = some v) : Py P G n base L As (.load t x) v := by
  refine ⟨fun w hw o ho => ?_⟩
  have hc := hr w hw
  simp [execOp, ho, h, Instr.loadAt, Instr.sureAddr, loadVar, hs w, hc]
theorem Sat.pick2 {w : World} {A B : Asn} (h : Sat G w As) (q1 : Pick A As l1) (q2 : Pick B l1 l2) : Sat G w (A :: B :: l2) := (h.pick q1).of fun hs => stars_tail (fun _ k => q2.to k) hs
end
theorem stream_of2 (c : Cfg) (hc : c.Ok) (bs : List Nat) (l : List Sym) (hv : ValidAll bs LzS.start l) (hr : (LzS.start.run l).i = bs.length) (hpos : 0 < bs.length) (hlen : bs.length ≤ 3000) (hby : ∀ x ∈ bs, x < 256) :
    ∃ x1 x2 x3 x4 rb, (Enc.evs M0 Enc.start (symsEv c bs LzS.start l)).flush.out = 0 :: x1 :: x2 :: x3 :: x4 :: rb ∧ StreamOk c bs l x1 x2 x3 x4 rb ∧ (∀ x ∈ 0 :: x1 :: x2 :: x3 :: x4 :: rb, x < 256) ∧ rb.length ≤ 50 * bs.length := by
  obtain ⟨x1, x2, x3, x4, rb, ho, hs, hx, _⟩ := stream_of c hc bs l hv hr hpos hlen hby
  obtain ⟨_, _, _, _, rb', ho', _, _, _, hl⟩ := stream_ok M0_PMok (symsEv c bs LzS.start l)
  have h1 := symsEv_len c (by omega) l LzS.start (LzS.start_ok _) hv
  have hi : LzS.start.i = 0 := rfl
  refine ⟨x1, x2, x3, x4, rb, ho, hs, hx, ?_⟩
  have e : rb = rb' := by rw [ho] at ho'; simp at ho'; exact ho'.2.2.2.2
  rw [hr] at h1
  rw [e]; omega
/-- What a list of chunks keeps. -/
structure CksOk (cl : List Ck) (bs : List Nat) (off : Nat) : Prop where
  d : cksData cl = bs.take off
  ok : ∀ ck ∈ cl, ck.Ok
  by' : ∀ x ∈ cl.flatMap Ck.bytes, x < 256
  len : (cl.flatMap Ck.bytes).length ≤ 61 * off
theorem CksOk.snoc {cl : List Ck} {bs : List Nat} {off n : Nat} (h : CksOk cl bs off) (ck : Ck) (hd : ck.data = (bs.drop off).take n) (hok : ck.Ok) (hby : ∀ x ∈ ck.bytes, x < 256) (hlen : ck.bytes.length ≤ 61 * n) : CksOk (cl ++ [ck]) bs (off + n) := by
  refine ⟨?_, ?_, ?_, ?_⟩
  · have := h.d
    simp only [cksData, List.flatMap_append, List.flatMap_cons, List.flatMap_nil, List.append_nil] at this ⊢
    rw [this, hd, List.take_add]
  · intro c hc
    rcases List.mem_append.1 hc with hc | hc
    · exact h.ok c hc
    · rw [List.mem_singleton.1 hc]; exact hok
  · intro x hx
    simp only [List.flatMap_append, List.flatMap_cons, List.flatMap_nil, List.append_nil] at hx
    rcases List.mem_append.1 hx with hx | hx
    · exact h.by' x hx
    · exact hby x hx
  · have := h.len
    simp only [List.flatMap_append, List.flatMap_cons, List.flatMap_nil, List.append_nil, List.length_append]
    omega
theorem RdOk.sub {cs : Array Value} {ob off n : Nat} {bs : List Nat} (h : RdOk cs ob bs) (hn : off + n ≤ bs.length) : RdOk cs (ob + off) ((bs.drop off).take n) := by
  intro i hi
  have hl : ((bs.drop off).take n).length = n := by rw [List.length_take, List.length_drop]; omega
  rw [hl] at hi
  have := h (off + i) (by omega)
  have e : ((bs.drop off).take n).getD i 0 = bs.getD (off + i) 0 := by
    simp [List.getD_eq_getElem?_getD, List.getElem?_take, hi, List.getElem?_drop]
  rw [e, Nat.add_assoc]
  exact this
theorem pk_row (cl : List Ck) (p : List Nat) (c : Cfg) (l : List Sym) (y1 y2 y3 y4 : Nat) (rb : List Nat) (a0 a1 a2 a3 a4 a5 : Int) (h0 : a0 = 224) (h1 : a1 = ((p.length - 1) / 256 : Nat)) (h2 : a2 = ((p.length - 1) % 256 : Nat)) (h3 : a3 = ((rb.length + 4) / 256 : Nat)) (h4 : a4 = ((rb.length + 4) % 256 : Nat)) (h5 : a5 = ((c.lc + 9 * (c.lp + 5 * c.pb) : Nat) : Int)) :
    u8s (cl.flatMap Ck.bytes) ++ [.int .u8 a0, .int .u8 a1, .int .u8 a2, .int .u8 a3, .int .u8 a4, .int .u8 a5] ++ u8s (0 :: y1 :: y2 :: y3 :: y4 :: rb) = u8s ((cl ++ [Ck.pk p c l y1 y2 y3 y4 rb]).flatMap Ck.bytes) := by
  subst h0 h1 h2 h3 h4 h5
  simp only [List.flatMap_append, List.flatMap_cons, List.flatMap_nil, List.append_nil, u8s_append, List.append_assoc]
  rfl
theorem raw_row (cl : List Ck) (p : List Nat) (a0 a1 a2 : Int) (h0 : a0 = 1) (h1 : a1 = ((p.length - 1) / 256 : Nat)) (h2 : a2 = ((p.length - 1) % 256 : Nat)) :
    u8s (cl.flatMap Ck.bytes) ++ [.int .u8 a0, .int .u8 a1, .int .u8 a2] ++ u8s p = u8s ((cl ++ [Ck.raw p]).flatMap Ck.bytes) := by
  subst h0 h1 h2
  simp only [List.flatMap_append, List.flatMap_cons, List.flatMap_nil, List.append_nil, u8s_append, List.append_assoc]
  rfl
set_option maxRecDepth 100000 in
set_option maxHeartbeats 8000000 in
theorem lzma2_con (G : Gst) (bb ob bl bc : Nat) (ba : Option Addr) (hba : 0 < bl → ba = some ⟨bb, ob, none⟩ ∧ bl ≤ bc) (cs : Array Value) (Tb : TypeId) (fr : Nat × Nat) (bs : List Nat) (hb : RdOk cs ob bs) (hbl : bs.length = bl) (hbl2 : bl ≤ 3000) (hbc : bc < 9223372036854775808) (c : Cfg) (hc : c.Ok) (piece : Nat) (hpiece : 1 ≤ piece ∧ piece ≤ 10000)
    (pa : Option Addr) (pb po plen pcap : Nat) (hpl : plen ≤ 100000) (B : Nat → Bool) (hpa : 0 < plen → pa = some ⟨pb, po, none⟩) (E : Asn) (hP : ∀ w r, Sat G w (blk bb (.cells cs Tb fr) :: E :: r) → ∀ j, j < plen → w.cell? ⟨pb, po + j, none⟩ = some (.bool (B j))) :
    Con Tryz.prog G 11 #[.slice ba bl bc, .int .i64 (piece : Int), .slice pa plen pcap, .int .i64 c.lc, .int .i64 c.lp, .int .i64 c.pb] [blk bb (.cells cs Tb fr), E]
      (fun x : {x : Value × List Ck // CksOk x.2 bs bl} => x.1.1) (fun x => [Row 5 x.1.1 (u8s (cksBytes x.1.2)), blk bb (.cells cs Tb fr), E]) := by
  have k1 := hc.l
  have k2 := hc.p
  have hby := hb.lt
  refine Con.intro Tryz.func11 rfl (by kernel_rfl) Tryz.ntmps11 (Nat.le_of_ble_eq_true rfl) ?_
  intro F
  show JC _ _ _ _ _ _ [(0, _), (1, _), (2, _), (3, _), (4, _), (5, _)] _ [_, _, _]
  refine sR ?_
  refine oC ?_
  refine nC (sR ?_)
  refine JO.bslice Tryz.underlying22 elm5 Evs.nil rfl rfl (by first | (simp [Value.oneCell']; done) | (simp only [List.mem_cons, List.not_mem_nil, or_false, forall_eq]; assumption) | fail) (by decide) ?_; intro b18
  refine oA ?_
  refine nC (JC.seq (sR ?_))
  refine oC ?_
  refine nC (JC.block ?_)
  refine JC.toRow (b := b18) (e := 5) (cur := #[]) (xs := u8s []) (m := 0) xpick rfl rfl (by decide) ?_
  refine JC.loop (ι := Nat × Nat × Option Addr × Nat × Value × List Ck) (fun x => x.1 ≤ x.2.1 ∧ x.2.1 ≤ bl ∧ (0 < bl - x.2.1 → x.2.2.1 = some ⟨bb, ob + x.2.1, none⟩ ∧ bl - x.2.1 ≤ x.2.2.2.1) ∧ x.2.2.2.1 < 9223372036854775808 ∧ CksOk x.2.2.2.2.2 bs x.2.1)
    (fun x => [(0, .slice x.2.2.1 (bl - x.2.1) x.2.2.2.1), (1, .int .i64 (piece : Int)), (2, .slice pa plen pcap), (3, .int .i64 c.lc), (4, .int .i64 c.lp), (5, .int .i64 c.pb), (13, x.2.2.2.2.1), (14, .int .i64 (x.1 : Int))])
    (fun x => [blk bb (.cells cs Tb fr), E, Row 5 x.2.2.2.2.1 (u8s (x.2.2.2.2.2.flatMap Ck.bytes)), F]) (fun x => bl - x.2.1) (0, 0, ba, bc, .slice (some ⟨b18, 0, none⟩) 0 0, []) ⟨Nat.le_refl _, Nat.zero_le _, fun h => hba h, hbc, ⟨rfl, by simp, by simp, by simp⟩⟩ xag xpkE ?_
  rintro ⟨i, off, ad, cp, v, cl⟩ base' ⟨h1, h2, h3, h4, h5⟩
  dsimp only at h1 h2 h3 h4 h5 ⊢
  by_cases hrem : off < bl
  · skip
    obtain ⟨rem, hr⟩ : ∃ rem, bl - off = rem := ⟨_, rfl⟩
    rw [hr] at h3 ⊢
    obtain ⟨rfl, hcp⟩ := h3 (by omega)
    obtain ⟨n, hn⟩ : ∃ n, min piece rem = n := ⟨_, rfl⟩
    refine JC.seq (sR ?_)
    refine oM ?_
    refine JO.py (Py.lenS Tryz.underlying22 xe) ?_
    first | refine oD (Py.gtr xe ev_const) ?_ | refine oU (Py.gtr xe ev_const) ?_ | refine JO.py (Py.gtr xe ev_const) ?_
    refine nC ?_
    refine cT ?_
    refine JC.skip (JX.code (JC.seq (JC.block (sR ?_))))
    refine oM ?_
    refine oM ?_
    refine JO.py (Py.lenS Tryz.underlying22 xe) ?_
    refine JO.py (Py.to (Py.min2 xe xe) (v' := .int .i64 (n : Int)) (vint (by split <;> omega))) ?_
    refine oA ?_
    refine nC (sR ?_)
    refine oM ?_
    refine oM ?_
    refine JO.py (Py.slc (l := 0) (h := n) (p := ob + off) (q := n) (c := cp) Tryz.underlying22 siz5 xe Bd.none (Bd.some xe (by omega)) (by omega) (by omega) (by omega) (by omega) (by omega) (by omega)) ?_
    refine oA ?_
    refine nC (sR ?_)
    refine oM ?_
    refine oM ?_
    refine JO.py (Py.slcU (l := n) (h := rem) Tryz.underlying22 siz5 xe (Bd.some xe (by omega)) Bd.none (by omega) (by omega)) ?_
    refine oA ?_
    refine nC (sR ?_)
    refine oM ?_
    refine oM ?_
    refine oM ?_
    refine oM ?_
    have hsub := hb.sub (off := off) (n := n) (by omega)
    have hsl : ((bs.drop off).take n).length = n := by rw [List.length_take, List.length_drop]; omega
    obtain ⟨p, hp⟩ : ∃ p, (bs.drop off).take n = p := ⟨_, rfl⟩
    rw [hp] at hsub hsl
    have hpby := hsub.lt
    refine JO.call (Evs.cons xe (Evs.cons xe (Evs.cons xe (Evs.cons xe Evs.nil)))) (lzma_con G bb (ob + off) n cp cs Tb fr p hsub hsl (by omega) c hc) xpkE ?_
    rintro ⟨⟨lv, l⟩, hv, hrn⟩
    show JO _ _ _ _ _ _ _ ((38, _) :: _) _ (_ :: _ :: _ :: _)
    dsimp only at hv hrn ⊢
    obtain ⟨y1, y2, y3, y4, rb, ho, hs, hx, hxl⟩ := stream_of2 c hc p l hv (by rw [hrn, hsl]) (by omega) (by omega) hpby
    rw [ho]
    refine JO.rowV (e := 5) (v := lv) (xs := u8s (0 :: y1 :: y2 :: y3 :: y4 :: rb)) xpick ?_
    rintro la lcap rfl -
    rw [u8s_len, show (0 :: y1 :: y2 :: y3 :: y4 :: rb).length = rb.length + 5 from rfl]
    have hul : (u8s (cl.flatMap Ck.bytes)).length = (cl.flatMap Ck.bytes).length := u8s_len _
    have hcl := h5.len
    refine oA ?_
    refine nC (JC.seq (JC.seq ?_))
    refine JC.mid (ι := {fl : Bool // fl = false → rb.length + 5 ≤ 65536}) (fun fl => [(0, .slice (some ⟨bb, if cp = n then ob + off else ob + off + n * 1, none⟩) (rem - n) (cp - n)), (1, .int .i64 (piece : Int)), (2, .slice pa plen pcap), (3, .int .i64 c.lc), (4, .int .i64 c.lp), (5, .int .i64 c.pb), (13, v), (14, .int .i64 (i : Int)), (15, .int .i64 (n : Int)), (16, .slice (some ⟨bb, ob + off, none⟩) n cp), (17, .slice la (rb.length + 5) lcap), (53, .bool fl.1)])
      (fun _ => [Row 5 (.slice la (rb.length + 5) lcap) (u8s (0 :: y1 :: y2 :: y3 :: y4 :: rb)), blk bb (.cells cs Tb fr), E, Row 5 v (u8s (cl.flatMap Ck.bytes)), F]) ?_ ?_
    · skip
      by_cases hi : i < plen
      · skip
        obtain rfl := hpa (by omega)
        refine JC.region ?_
        refine oM ?_
        refine oM ?_
        refine JO.py (Py.lenS Tryz.underlying33 xe) ?_
        first | refine oD (Py.lss xe xe) ?_ | refine oU (Py.lss xe xe) ?_ | refine JO.py (Py.lss xe xe) ?_
        refine oM ?_
        first | (refine gT ?_; (refine oM ?_)) | refine kF ?_
        first | (refine gT ?_; (refine oM ?_)) | refine kF ?_
        first | (refine gT ?_; (refine JO.py (Py.idxS Tryz.underlying33 siz4 xe xe (by omega) xidx xmult) ?_)) | refine kF ?_
        refine gT ?_
        refine JO.py (Py.loadR scal4 xe (fun w hw => hP w _ (Sat.pick2 hw xpick xpick) i hi)) ?_
        cases hBi : B i
        · skip
          by_cases hk : rb.length + 5 ≤ 65536
          · skip
            first | refine JO.py (Py.pickT xe xe) ?_ | refine JO.py (Py.pickF xe ev_const) ?_
            refine oM ?_
            first | (refine gF ?_; (refine oM ?_)) | refine kT ?_
            first | (refine gF ?_; (refine JO.py (Py.lenS Tryz.underlying22 xe) ?_)) | refine kT ?_
            first | (refine gF ?_; (first | refine oD (Py.gtr xe ev_const) ?_ | refine oU (Py.gtr xe ev_const) ?_ | refine JO.py (Py.gtr xe ev_const) ?_)) | refine kT ?_
            first | refine JO.py (Py.pickT xe ev_const) ?_ | refine JO.py (Py.pickF xe xe) ?_
            refine JO.nil ?_
            refine JX.cut ⟨false, fun _ => hk⟩ xag xpkE rfl
          · skip
            first | refine JO.py (Py.pickT xe xe) ?_ | refine JO.py (Py.pickF xe ev_const) ?_
            refine oM ?_
            first | (refine gF ?_; (refine oM ?_)) | refine kT ?_
            first | (refine gF ?_; (refine JO.py (Py.lenS Tryz.underlying22 xe) ?_)) | refine kT ?_
            first | (refine gF ?_; (first | refine oD (Py.gtr xe ev_const) ?_ | refine oU (Py.gtr xe ev_const) ?_ | refine JO.py (Py.gtr xe ev_const) ?_)) | refine kT ?_
            first | refine JO.py (Py.pickT xe ev_const) ?_ | refine JO.py (Py.pickF xe xe) ?_
            refine JO.nil ?_
            refine JX.cut ⟨true, fun h => by cases h⟩ xag xpkE rfl
        · skip
          first | refine JO.py (Py.pickT xe xe) ?_ | refine JO.py (Py.pickF xe ev_const) ?_
          refine oM ?_
          first | (refine gF ?_; (refine oM ?_)) | refine kT ?_
          first | (refine gF ?_; (refine JO.py (Py.lenS Tryz.underlying22 xe) ?_)) | refine kT ?_
          first | (refine gF ?_; (first | refine oD (Py.gtr xe ev_const) ?_ | refine oU (Py.gtr xe ev_const) ?_ | refine JO.py (Py.gtr xe ev_const) ?_)) | refine kT ?_
          first | refine JO.py (Py.pickT xe ev_const) ?_ | refine JO.py (Py.pickF xe xe) ?_
          refine JO.nil ?_
          refine JX.cut ⟨true, fun h => by cases h⟩ xag xpkE rfl
      · skip
        by_cases hk : rb.length + 5 ≤ 65536
        · skip
          refine JC.region ?_
          refine oM ?_
          refine oM ?_
          refine JO.py (Py.lenS Tryz.underlying33 xe) ?_
          first | refine oD (Py.lss xe xe) ?_ | refine oU (Py.lss xe xe) ?_ | refine JO.py (Py.lss xe xe) ?_
          refine oM ?_
          first | (refine gT ?_; (refine oM ?_)) | refine kF ?_
          first | (refine gT ?_; (refine oM ?_)) | refine kF ?_
          first | (refine gT ?_; (refine JO.py (Py.idxS Tryz.underlying33 siz4 xe xe (by omega) xidx xmult) ?_)) | refine kF ?_
          first | (refine gT ?_; (refine JO.py (Py.load scal4 xe xpick xrow) ?_)) | refine kF ?_
          first | refine JO.py (Py.pickT xe xe) ?_ | refine JO.py (Py.pickF xe ev_const) ?_
          refine oM ?_
          first | (refine gF ?_; (refine oM ?_)) | refine kT ?_
          first | (refine gF ?_; (refine JO.py (Py.lenS Tryz.underlying22 xe) ?_)) | refine kT ?_
          first | (refine gF ?_; (first | refine oD (Py.gtr xe ev_const) ?_ | refine oU (Py.gtr xe ev_const) ?_ | refine JO.py (Py.gtr xe ev_const) ?_)) | refine kT ?_
          first | refine JO.py (Py.pickT xe ev_const) ?_ | refine JO.py (Py.pickF xe xe) ?_
          refine JO.nil ?_
          refine JX.cut ⟨false, fun _ => hk⟩ xag xpkE rfl
        · skip
          refine JC.region ?_
          refine oM ?_
          refine oM ?_
          refine JO.py (Py.lenS Tryz.underlying33 xe) ?_
          first | refine oD (Py.lss xe xe) ?_ | refine oU (Py.lss xe xe) ?_ | refine JO.py (Py.lss xe xe) ?_
          refine oM ?_
          first | (refine gT ?_; (refine oM ?_)) | refine kF ?_
          first | (refine gT ?_; (refine oM ?_)) | refine kF ?_
          first | (refine gT ?_; (refine JO.py (Py.idxS Tryz.underlying33 siz4 xe xe (by omega) xidx xmult) ?_)) | refine kF ?_
          first | (refine gT ?_; (refine JO.py (Py.load scal4 xe xpick xrow) ?_)) | refine kF ?_
          first | refine JO.py (Py.pickT xe xe) ?_ | refine JO.py (Py.pickF xe ev_const) ?_
          refine oM ?_
          first | (refine gF ?_; (refine oM ?_)) | refine kT ?_
          first | (refine gF ?_; (refine JO.py (Py.lenS Tryz.underlying22 xe) ?_)) | refine kT ?_
          first | (refine gF ?_; (first | refine oD (Py.gtr xe ev_const) ?_ | refine oU (Py.gtr xe ev_const) ?_ | refine JO.py (Py.gtr xe ev_const) ?_)) | refine kT ?_
          first | refine JO.py (Py.pickT xe ev_const) ?_ | refine JO.py (Py.pickF xe xe) ?_
          refine JO.nil ?_
          refine JX.cut ⟨true, fun h => by cases h⟩ xag xpkE rfl
    · rintro ⟨fl, hfl⟩ base2
      dsimp only
      refine JX.code ?_
      cases fl
      · skip
        have hk := hfl rfl
        refine cF ?_
        refine JC.skip (JX.code (sR ?_))
        refine oM ?_
        refine oM ?_
        refine JO.py (Py.sub xe ev_const wI) ?_
        refine JO.py (Py.shr 16 65536 xe ev_const rfl (by decide) (by decide) (by decide)) ?_
        first | refine JO.py (Py.conv cnv3_5 xe (w_u8 (by omega))) ?_ | refine JO.py (Py.conv cnv3_5 xe (m_u8 _)) ?_
        refine JO.py (Py.to (Py.orN ev_const xe (r_u8 (by omega)) (r_u8 (by omega)) (by decide)) (v' := .int .u8 224) (vint (by rw [show (((n : Int) - 1) / 65536).toNat = 0 by omega]; rfl))) ?_
        refine oM ?_
        refine JO.py (Py.sub xe ev_const wI) ?_
        refine JO.py (Py.shr 8 256 xe ev_const rfl (by decide) (by decide) (by decide)) ?_
        first | refine JO.py (Py.conv cnv3_5 xe (w_u8 (by omega))) ?_ | refine JO.py (Py.conv cnv3_5 xe (m_u8 _)) ?_
        refine oM ?_
        refine JO.py (Py.sub xe ev_const wI) ?_
        first | refine JO.py (Py.conv cnv3_5 xe (w_u8 (by omega))) ?_ | refine JO.py (Py.conv cnv3_5 xe (m_u8 _)) ?_
        refine oM ?_
        refine JO.py (Py.lenS Tryz.underlying22 xe) ?_
        refine JO.py (Py.sub xe ev_const wI) ?_
        refine JO.py (Py.shr 8 256 xe ev_const rfl (by decide) (by decide) (by decide)) ?_
        first | refine JO.py (Py.conv cnv3_5 xe (w_u8 (by omega))) ?_ | refine JO.py (Py.conv cnv3_5 xe (m_u8 _)) ?_
        refine oM ?_
        refine JO.py (Py.lenS Tryz.underlying22 xe) ?_
        refine JO.py (Py.sub xe ev_const wI) ?_
        first | refine JO.py (Py.conv cnv3_5 xe (w_u8 (by omega))) ?_ | refine JO.py (Py.conv cnv3_5 xe (m_u8 _)) ?_
        refine oM ?_
        refine oM ?_
        refine oM ?_
        refine JO.py (Py.mul ev_const xe wI) ?_
        refine JO.py (Py.add xe xe wI) ?_
        refine JO.py (Py.mul ev_const xe wI) ?_
        refine JO.py (Py.add xe xe wI) ?_
        first | refine JO.py (Py.conv cnv3_5 xe (w_u8 (by omega))) ?_ | refine JO.py (Py.conv cnv3_5 xe (m_u8 _)) ?_
        refine JO.bslice Tryz.underlying22 elm5 (Evs.cons xe (Evs.cons xe (Evs.cons xe (Evs.cons xe (Evs.cons xe (Evs.cons xe Evs.nil)))))) rfl rfl (by first | (simp [Value.oneCell']; done) | (simp only [List.mem_cons, List.not_mem_nil, or_false, forall_eq]; assumption) | fail) (by decide) ?_; intro b96
        refine JO.app Tryz.underlying22 elm5 xe xe xpick (Src.lit rfl xpick (by rfl) (by simp [Value.oneCell'])) (by rw [hul]; omega) (by decide) ?_
        intro v97 ho97
        refine oA ?_
        refine nC (JC.region ?_)
        refine oM ?_
        refine oM ?_
        refine JO.app Tryz.underlying22 elm5 xe xe xpick (Src.row xpick u8s_one ⟨la, _, lcap, rfl, by rw [u8s_len]; rfl⟩) (by simp only [List.length_append, hul, List.length_cons, List.length_nil]; rw [u8s_len]; simp only [List.length_cons]; omega) (by decide) ?_
        intro v100 ho100
        refine oA ?_
        refine JO.nil (JX.blockN (JX.code (JC.region ?_)))
        refine oM ?_
        refine JO.py (Py.add xe ev_const wI) ?_
        refine oA ?_
        refine JO.nil ?_
        refine JX.as (A := Row 5 v100 _) (A' := Row 5 v100 (u8s ((cl ++ [Ck.pk p c l y1 y2 y3 y4 rb]).flatMap Ck.bytes))) xpick (row_eq (pk_row cl p c l y1 y2 y3 y4 rb _ _ _ _ _ _ rfl (by rw [hsl]; omega) (by rw [hsl]; omega) (by omega) (by omega) (by omega))) ?_
        rw [show rem - n = bl - (off + n) by omega]
        refine JX.loop (i + 1, off + n, some ⟨bb, if cp = n then ob + off else ob + off + n * 1, none⟩, cp - n, v100, cl ++ [Ck.pk p c l y1 y2 y3 y4 rb]) ⟨by dsimp only; omega, by dsimp only; omega, fun h => ⟨by dsimp only at h ⊢; rw [if_neg (by omega), Nat.mul_one, Nat.add_assoc], by dsimp only at h ⊢; omega⟩, by dsimp only; omega, h5.snoc (.pk p c l y1 y2 y3 y4 rb) (by rw [hp]; rfl) ⟨hs, hk⟩ (by
          intro x hxm
          simp only [Ck.bytes, List.mem_cons] at hxm
          rcases hxm with rfl | rfl | rfl | rfl | rfl | rfl | hxm
          · decide
          · omega
          · omega
          · omega
          · omega
          · omega
          · exact hx x (by simpa using hxm)) (by simp only [Ck.bytes, List.length_cons]; omega)⟩ (by dsimp only; omega) xag xpkE
      · skip
        refine cT ?_
        refine sR ?_
        refine oM ?_
        refine oM ?_
        refine JO.py (Py.sub xe ev_const wI) ?_
        refine JO.py (Py.shr 8 256 xe ev_const rfl (by decide) (by decide) (by decide)) ?_
        first | refine JO.py (Py.conv cnv3_5 xe (w_u8 (by omega))) ?_ | refine JO.py (Py.conv cnv3_5 xe (m_u8 _)) ?_
        refine oM ?_
        refine JO.py (Py.sub xe ev_const wI) ?_
        first | refine JO.py (Py.conv cnv3_5 xe (w_u8 (by omega))) ?_ | refine JO.py (Py.conv cnv3_5 xe (m_u8 _)) ?_
        refine JO.bslice Tryz.underlying22 elm5 (Evs.cons ev_const (Evs.cons xe (Evs.cons xe Evs.nil))) rfl rfl (by first | (simp [Value.oneCell']; done) | (simp only [List.mem_cons, List.not_mem_nil, or_false, forall_eq]; assumption) | fail) (by decide) ?_; intro b62
        refine JO.app Tryz.underlying22 elm5 xe xe xpick (Src.lit rfl xpick (by rfl) (by simp [Value.oneCell'])) (by rw [hul]; omega) (by decide) ?_
        intro v63 ho63
        refine oM ?_
        have hcsz : ob + off + n ≤ cs.size := by
          have h9 := (hsub (n - 1) (by omega)).1
          have := (Array.getElem?_eq_some_iff.1 h9).1
          omega
        refine JO.app Tryz.underlying22 elm5 xe xe xpick (Src.cel rfl xpick hcsz (hsub.ext hsl hcsz) u8s_one) (by simp only [List.length_append, hul, List.length_cons, List.length_nil]; omega) (by decide) ?_
        intro v65 ho65
        refine oA ?_
        refine nC (JC.exit (JX.exit (JX.blockE (JX.code (JC.region ?_)))))
        refine oM ?_
        refine JO.py (Py.add xe ev_const wI) ?_
        refine oA ?_
        refine JO.nil ?_
        refine JX.as (A := Row 5 v65 _) (A' := Row 5 v65 (u8s ((cl ++ [Ck.raw p]).flatMap Ck.bytes))) xpick (row_eq (raw_row cl p _ _ _ rfl (by rw [hsl]; omega) (by rw [hsl]; omega))) ?_
        rw [show rem - n = bl - (off + n) by omega]
        refine JX.loop (i + 1, off + n, some ⟨bb, if cp = n then ob + off else ob + off + n * 1, none⟩, cp - n, v65, cl ++ [Ck.raw p]) ⟨by dsimp only; omega, by dsimp only; omega, fun h => ⟨by dsimp only at h ⊢; rw [if_neg (by omega), Nat.mul_one, Nat.add_assoc], by dsimp only at h ⊢; omega⟩, by dsimp only; omega, h5.snoc (.raw p) (by rw [hp]; rfl) ⟨by omega, by omega⟩ (by
          intro x hxm
          simp only [Ck.bytes, List.mem_cons] at hxm
          rcases hxm with rfl | rfl | rfl | hxm
          · decide
          · omega
          · omega
          · exact hpby x hxm) (by simp only [Ck.bytes, List.length_cons]; omega)⟩ (by dsimp only; omega) xag xpkE
  · skip
    obtain rfl : off = bl := by omega
    rw [Nat.sub_self]
    refine JC.seq (sR ?_)
    refine oM ?_
    refine JO.py (Py.lenS Tryz.underlying22 xe) ?_
    first | refine oD (Py.gtr xe ev_const) ?_ | refine oU (Py.gtr xe ev_const) ?_ | refine JO.py (Py.gtr xe ev_const) ?_
    refine nC ?_
    refine cF ?_
    refine JC.exit (JX.exit (JX.exit (JX.blockE (JX.code (sR ?_)))))
    refine oM ?_
    refine JO.bslice Tryz.underlying22 elm5 (Evs.cons ev_const Evs.nil) rfl rfl (by first | (simp [Value.oneCell']; done) | (simp only [List.mem_cons, List.not_mem_nil, or_false, forall_eq]; assumption) | fail) (by decide) ?_; intro b102
    refine JO.app Tryz.underlying22 elm5 xe xe xpick (Src.lit rfl xpick (by rfl) (by simp [Value.oneCell'])) (by rw [u8s_len]; have := h5.len; omega) (by decide) ?_
    intro v103 ho103
    refine oA ?_
    refine nC (JC.ret ?_)
    refine JX.as (A := Row 5 v103 _) (A' := Row 5 v103 (u8s (cksBytes cl))) xpick (row_eq (by simp [cksBytes, u8s_append]; rfl)) ?_
    refine JX.end1 (Or.inl rfl) (⟨(v103, cl), h5⟩) Tryz.results11 ((xe).trans (by first | exact xval | (dsimp only; exact xval))) xpkE
end Go.Proofs.YtfpepghmbeoanaaGreatDoor
end

section
open Go Go.RowKit
namespace Go.Proofs.YtfpepghmbeoanaaGreatDoor
open Lz
theorem fill2_con (G : Gst) (b : Nat) : Con Tryz.prog G 64 #[.pointer (some ⟨b, 0, none⟩)] [cel b 147 #[.int .i64 65536]] (fun _ : Unit => .tuple #[]) (fun _ => [cel b 147 #[.int .i64 65536]]) := by
  refine Con.intro Tryz.func64 rfl (by kernel_rfl) Tryz.ntmps64 (Nat.le_of_ble_eq_true rfl) ?_
  intro F
  show JC _ _ _ _ _ _ [(0, _)] _ [_, _]
  refine sR ?_
  refine oM ?_
  first | refine JO.py (Py.nil xe) ?_ | refine JO.py (Py.nilI xe) ?_
  refine JO.py (Py.fld fld147_0 xe xoff) ?_
  refine JO.py (Py.load scal3 xe xpick xrow) ?_
  first | refine oD (Py.eql xe ev_const) ?_ | refine oU (Py.eql xe ev_const) ?_ | refine JO.py (Py.eql xe ev_const) ?_
  refine nC ?_
  refine cF ?_
  refine JC.skip ?_
  refine JX.end0 (Or.inr rfl) (()) Tryz.results64 rfl xpkE
theorem verify2_con (G : Gst) (b : Nat) : Con Tryz.prog G 57 #[.pointer (some ⟨b, 0, none⟩)] [cel b 147 #[.int .i64 65536]] (fun _ : Unit => .nilIface) (fun _ => [cel b 147 #[.int .i64 65536]]) := by
  refine Con.intro Tryz.func57 rfl (by kernel_rfl) Tryz.ntmps57 (Nat.le_of_ble_eq_true rfl) ?_
  intro F
  show JC _ _ _ _ _ _ [(0, _)] _ [_, _]
  refine sR ?_
  refine oC ?_
  refine nC (sR ?_)
  refine oM ?_
  refine JO.call (Evs.cons xe Evs.nil) (fill2_con G b) xpkE ?_
  rintro _
  show JO _ _ _ _ _ _ _ ((4, _) :: _) _ (_ :: _ :: _)
  refine nC (JC.seq (sR ?_))
  refine oM ?_
  first | refine JO.py (Py.nil xe) ?_ | refine JO.py (Py.nilI xe) ?_
  refine JO.py (Py.fld fld147_0 xe xoff) ?_
  refine JO.py (Py.load scal3 xe xpick xrow) ?_
  first | refine oD (Py.leq ev_const xe) ?_ | refine oU (Py.leq ev_const xe) ?_ | refine JO.py (Py.leq ev_const xe) ?_
  refine oM ?_
  first | (refine gT ?_; (refine oM ?_)) | refine kF ?_
  first | (refine gT ?_; (first | refine JO.py (Py.nil xe) ?_ | refine JO.py (Py.nilI xe) ?_)) | refine kF ?_
  first | (refine gT ?_; (refine JO.py (Py.fld fld147_0 xe xoff) ?_)) | refine kF ?_
  first | (refine gT ?_; (refine JO.py (Py.load scal3 xe xpick xrow) ?_)) | refine kF ?_
  first | (refine gT ?_; (first | refine oD (Py.leq xe ev_const) ?_ | refine oU (Py.leq xe ev_const) ?_ | refine JO.py (Py.leq xe ev_const) ?_)) | refine kF ?_
  first | refine JO.py (Py.pickT xe xe) ?_ | refine JO.py (Py.pickF xe ev_const) ?_
  refine JO.py (Py.not xe (by first | with_reducible exact not_t | with_reducible exact not_f | exact rfl)) ?_
  refine nC ?_
  refine cF ?_
  refine JC.skip (JX.code (sR ?_))
  refine oC ?_
  refine nC (JC.ret ?_)
  refine JX.end1 (Or.inl rfl) (()) Tryz.results57 ((xe).trans (by first | exact xval | (dsimp only; exact xval))) xpkE
theorem newDict65536_con (G : Gst) (all : List Nat) : Con Tryz.prog G 66 #[.int .i64 65536] [] (fun x : Nat × Nat => .tuple #[.pointer (some ⟨x.1, 0, none⟩), .nilIface]) (fun x => [DictC x.1 x.2 65537 0 0 0, DictD x.2 all 0 65537]) := newDict_con G 65536 (by decide) all
/-- A reader of LZMA2 that is made: what it stands on, where it stands. -/
structure R2I (G : Gst) (ea : Addr) (eT : TypeId) (ef : Nat × Nat) (Z : ZP) (all : List Nat) where
  X : L2P
  s : Option (CkR G X ea eT ef × List Ck × Bool × Nat)
  ok : X.Ok
  z : X.Z = Z
  a : X.all = all
  n : s = none → all.length = 0
  y : ∀ y, s = some y → RdOk2 y.1 y.2.1 y.2.2.1 y.2.2.2 ∧ y.2.2.2 = 0
set_option maxRecDepth 100000 in
set_option maxHeartbeats 2000000 in
theorem newR2_con (G : Gst) (Z : ZP) (hZ : Z.Ok) (all : List Nat) (cl : List Ck) (hs : Z.stream = cksBytes cl) (hd : all = cksData cl) (hok : ∀ ck ∈ cl, ck.Ok) (hlen : all.length ≤ 3000) (hby : ∀ x ∈ all, x < 256) (ea : Addr) (eT : TypeId) (ef : Nat × Nat) :
    Con Tryz.prog G 58 #[.agg #[.int .i64 65536], Z.v] [Z.A 0, EofA ea eT ef] (fun i : R2I G ea eT ef Z all => .tuple #[.pointer (some ⟨i.X.rr, 0, none⟩), .nilIface]) (fun i => [r2St i.s, EofA ea eT ef]) := by
  refine Con.intro Tryz.func58 rfl (by kernel_rfl) Tryz.ntmps58 (Nat.le_of_ble_eq_true rfl) ?_
  intro F
  show JC _ _ _ _ _ _ [(0, _), (1, _)] _ [_, _, _]
  refine sR ?_
  refine JO.boxA xe ?_; intro b2
  refine oC ?_
  refine oC ?_
  refine nC (JC.seq (sR ?_))
  refine JO.call (Evs.cons xe Evs.nil) (verify2_con G b2) xpkE ?_
  rintro _
  show JO _ _ _ _ _ _ _ ((6, _) :: _) _ (_ :: _ :: _)
  refine oA ?_
  refine nC (sR ?_)
  refine oM ?_
  first | refine JO.py (Py.neqNil Tryz.underlying70 xe rfl) ?_ | refine JO.py (Py.neqHeld Tryz.underlying70 xe rfl) ?_
  refine nC ?_
  refine cF ?_
  refine JC.skip (JX.code (sR ?_))
  refine oM ?_
  refine JO.py (Py.build bld191 (Pts.cons xe (Pts.cons ev_const Pts.nil)) xfl) ?_
  refine JO.boxA xe ?_; intro b12
  refine oA ?_
  refine nC (sR ?_)
  refine oM ?_
  refine JO.py (Py.fld fld147_0 xe xoff) ?_
  refine JO.py (Py.load scal3 xe xpick xrow) ?_
  refine JO.call (Evs.cons xe Evs.nil) (newDict65536_con G all) xpkE ?_
  rintro ⟨dd, db⟩
  show JO _ _ _ _ _ _ _ ((17, _) :: _) _ (_ :: _ :: _ :: _)
  dsimp only
  refine oM ?_
  refine JO.py (Py.extrI xe xix) ?_
  refine JO.py (Py.extrI xe xix) ?_
  first | refine JO.py (Py.nil xe) ?_ | refine JO.py (Py.nilI xe) ?_
  refine JO.py (Py.fld fld191_2 xe xoff) ?_
  refine JO.store siz187 xe xe (by first | rfl | assumption) xpick xsize xnorm ?_
  refine oA ?_
  refine nC (JC.seq (sR ?_))
  refine oM ?_
  first | refine JO.py (Py.neqNil Tryz.underlying70 xe rfl) ?_ | refine JO.py (Py.neqHeld Tryz.underlying70 xe rfl) ?_
  refine nC ?_
  refine cF ?_
  refine JC.skip (JX.code (JC.seq (sR ?_)))
  refine oM ?_
  have hX : (⟨Z, b12, dd, db, all⟩ : L2P).Ok := ⟨hZ, hlen, hby⟩
  have hrem : RemOk ⟨Z, b12, dd, db, all⟩ cl 0 := ⟨by rw [List.drop_zero]; exact hd, Nat.zero_le _, hok⟩
  refine JO.free (A := urA dd none) rfl ?_
  refine JO.free (A := dcA dd none) rfl ?_
  refine JO.shut (f := (fun g : {g : Nat × Nat // Z.stream.drop g.1 = cksBytes cl} => [Z.A g.1.1, DictC dd db 65537 0 0 g.1.2, DictD db all 0 65537, urA dd none, dcA dd none])) (⟨(0, 0), by rw [List.drop_zero]; exact hs⟩) xpicks ?_
  refine JO.as (A := Ex fun g : {g : Nat × Nat // Z.stream.drop g.1 = cksBytes cl} => [Z.A g.1.1, DictC dd db 65537 0 0 g.1.2, DictD db all 0 65537, urA dd none, dcA dd none]) (A' := BndA ⟨Z, b12, dd, db, all⟩ none none (cksBytes cl) 0) xpick (rfl) ?_
  refine JO.as (A := cel b12 191 #[Z.v, .nilIface, .pointer (some ⟨dd, 0, none⟩), .pointer none, .pointer none, .nilIface, .int .u8 83]) (A' := R2C b12 Z.v .nilIface dd (ptV none) (ptV none) .nilIface 83) xpick (rfl) ?_
  rcases cl with _ | ⟨ck, cl⟩
  · skip
    have hnil : all.length = 0 := by rw [hd]; rfl
    rw [show cksBytes [] = [0] from rfl]
    refine JO.call (Evs.cons xe Evs.nil) (sc0_con G ⟨Z, b12, dd, db, all⟩ hX none none (ptV none) (ptV none) .nilIface 83 0 (.inl rfl) ea eT ef) xpkE ?_
    rintro _
    show JO _ _ _ _ _ _ _ ((26, _) :: _) _ (_ :: _ :: _ :: _)
    refine oA ?_
    refine nC (sR ?_)
    refine oM ?_
    first | refine JO.py (Py.neqNil Tryz.underlying70 xe rfl) ?_ | refine JO.py (Py.neqHeld Tryz.underlying70 xe rfl) ?_
    refine nC ?_
    refine cT ?_
    refine JC.region ?_
    refine oM ?_
    refine oM ?_
    first | refine JO.py (Py.nil xe) ?_ | refine JO.py (Py.nilI xe) ?_
    refine JO.py (Py.fld fld191_1 xe xoff) ?_
    refine JO.store siz70 xe xe (by first | rfl | assumption) xpick xsize xnorm ?_
    refine nC (sR ?_)
    refine oM ?_
    refine oA ?_
    refine oC ?_
    refine nC (JC.ret ?_)
    refine JX.shut (f := fun x : Value × Value × Value => [R2C b12 Z.v (eofV ea) dd x.1 x.2.1 x.2.2 84]) (ptV none, ptV none, .nilIface) xpicks ?_
    refine JX.as (A := finCell ⟨Z, b12, dd, db, all⟩ ea) (A' := r2St (G := G) (X := ⟨Z, b12, dd, db, all⟩) (ea := ea) (eT := eT) (ef := ef) none) xpick (rfl) ?_
    refine JX.end2 (Or.inl rfl) (⟨⟨Z, b12, dd, db, all⟩, none, hX, rfl, rfl, fun _ => hnil, fun y h => by cases h⟩) Tryz.results58 (tup2 ((xe).trans (by first | exact xval | (dsimp only; exact xval))) ((xe).trans (by first | exact xval | (dsimp only; exact xval)))) xpkE
  · skip
    obtain ⟨hat, hrem2⟩ := hrem.at
    rw [show cksBytes (ck :: cl) = ck.bytes ++ cksBytes cl by simp [cksBytes]]
    refine JO.call (Evs.cons xe Evs.nil) (sc_con G ⟨Z, b12, dd, db, all⟩ hX none none .nilIface 83 0 ck (hok ck (by simp)) hat (cksBytes cl) (.inl rfl) ea eT ef) xpkE ?_
    rintro ⟨K, k1, k2, k3, k4⟩
    show JO _ _ _ _ _ _ _ ((26, _) :: _) _ (_ :: _ :: _ :: _ :: _)
    dsimp only
    refine oA ?_
    refine nC (sR ?_)
    refine oM ?_
    first | refine JO.py (Py.neqNil Tryz.underlying70 xe rfl) ?_ | refine JO.py (Py.neqHeld Tryz.underlying70 xe rfl) ?_
    refine nC ?_
    refine cF ?_
    refine JC.skip (JX.code (sR ?_))
    refine oM ?_
    refine oA ?_
    refine oC ?_
    refine nC (JC.ret ?_)
    refine JX.shut (f := fun _ : Unit => rdCells K true 0) () xpicks ?_
    refine JX.as (A := Ex fun _ : Unit => rdCells K true 0) (A' := r2St (some (K, cl, true, 0))) xpick (rfl) ?_
    refine JX.end2 (Or.inl rfl) (⟨⟨Z, b12, dd, db, all⟩, some (K, cl, true, 0), hX, rfl, rfl, fun h => (by cases h), fun y h => by cases h; exact ⟨⟨k3, fun _ => k1.symm, by dsimp only; omega, by rw [k1, k2]; exact hrem2, k4⟩, rfl⟩⟩) Tryz.results58 (tup2 ((xe).trans (by first | exact xval | (dsimp only; exact xval))) ((xe).trans (by first | exact xval | (dsimp only; exact xval)))) xpkE
theorem mth149R (p : Value) : Mth Tryz.prog 149 p "Read" 208 p := fun w => by kernel_rfl
theorem mth152R (p : Value) : Mth Tryz.prog 152 p "Read" 210 p := fun w => by kernel_rfl
abbrev rc2C (rc : Nat) (Z : ZP) (rr : Nat) : Asn := cel rc 154 #[Z.v, .iface 149 (.pointer (some ⟨rr, 0, none⟩))]
theorem rc2Fin_con (G : Gst) (X : L2P) (Z : ZP) (rc pb : Nat) (ea : Addr) (eT : TypeId) (ef : Nat × Nat) :
    Con Tryz.prog G 210 #[.pointer (some ⟨rc, 0, none⟩), .slice (some ⟨pb, 0, none⟩) 512 512] [rc2C rc Z X.rr, finCell X ea, EofA ea eT ef] (fun _ : Unit => .tuple #[.int .i64 0, eofV ea]) (fun _ => [rc2C rc Z X.rr, finCell X ea, EofA ea eT ef]) := by
  have hm := mth149R (.pointer (some ⟨X.rr, 0, none⟩))
  refine Con.intro Tryz.func210 rfl (by kernel_rfl) Tryz.ntmps210 (Nat.le_of_ble_eq_true rfl) ?_
  intro F
  show JC _ _ _ _ _ _ [(0, _), (1, _)] _ [_, _, _, _]
  refine sR ?_
  refine oC ?_
  refine oC ?_
  refine nC (JC.seq (sR ?_))
  refine oM ?_
  first | refine JO.py (Py.nil xe) ?_ | refine JO.py (Py.nilI xe) ?_
  refine JO.py (Py.fld fld154_1 xe xoff) ?_
  refine JO.py (Py.load scal113 xe xpick xrow) ?_
  first | refine JO.py (Py.eqlNil Tryz.underlying113 xe rfl) ?_ | refine JO.py (Py.eqlHeld Tryz.underlying113 xe rfl) ?_
  refine nC ?_
  refine cF ?_
  refine JC.skip (JX.code (sR ?_))
  refine oM ?_
  first | refine JO.py (Py.nil xe) ?_ | refine JO.py (Py.nilI xe) ?_
  refine JO.py (Py.fld fld154_1 xe xoff) ?_
  refine JO.py (Py.load scal113 xe xpick xrow) ?_
  refine oM ?_
  refine JO.invoke xe (Evs.cons xe Evs.nil) (hm) (r2Fin_con G X (.slice (some ⟨pb, 0, none⟩) 512 512) ea) xpkE ?_
  rintro _
  show JO _ _ _ _ _ _ _ ((20, _) :: _) _ (_ :: _ :: _)
  refine oM ?_
  refine JO.py (Py.extrI xe xix) ?_
  refine JO.py (Py.extrI xe xix) ?_
  refine oA ?_
  refine oA ?_
  refine nC (JC.seq (sR ?_))
  refine oM ?_
  first | refine JO.py (Py.neqNil Tryz.underlying70 xe rfl) ?_ | refine JO.py (Py.neqHeld Tryz.underlying70 xe rfl) ?_
  refine oM ?_
  first | (refine gT ?_; (refine oM ?_)) | refine kF ?_
  first | (refine gT ?_; (refine JO.py (Py.load scal70 ev_glob xpick xrow) ?_)) | refine kF ?_
  refine gT ?_
  refine JO.call (Evs.cons xe (Evs.cons xe Evs.nil)) (is_con G ea) xpkE ?_
  rintro _
  show JO _ _ _ _ _ _ _ ((28, _) :: _) _ (_ :: _)
  first | (refine gT ?_; (refine JO.py (Py.not xe (by first | with_reducible exact not_t | with_reducible exact not_f | exact rfl)) ?_)) | refine kF ?_
  first | refine JO.py (Py.pickT xe xe) ?_ | refine JO.py (Py.pickF xe ev_const) ?_
  refine nC ?_
  refine cF ?_
  refine JC.skip (JX.code (sR ?_))
  refine oM ?_
  refine oM ?_
  refine oA ?_
  refine oA ?_
  refine nC (JC.ret ?_)
  refine JX.end2 (Or.inl rfl) (()) Tryz.results210 (tup2 ((xe).trans (by first | exact xval | (dsimp only; exact xval))) ((xe).trans (by first | exact xval | (dsimp only; exact xval)))) xpkE
theorem rc2Read_con (G : Gst) (X : L2P) (hX : X.Ok) (Z : ZP) (rc : Nat) (ea : Addr) (eT : TypeId) (ef : Nat × Nat) (K0 : CkR G X ea eT ef) (cl0 : List Ck) (f0 : Bool) (re0 : Nat) (h0 : RdOk2 K0 cl0 f0 re0) (pb : Nat) (ps : Array Value) (hps : ps.size = 512) :
    Con Tryz.prog G 210 #[.pointer (some ⟨rc, 0, none⟩), .slice (some ⟨pb, 0, none⟩) 512 512] [rc2C rc Z X.rr, R2C X.rr X.Z.v .nilIface X.dd (ptV K0.ur) (ptV K0.dc) (.iface K0.t K0.u) K0.st, K0.St f0 re0, cel pb 5 ps, EofA ea eT ef]
      (fun x : {x : Option (CkR G X ea eT ef × List Ck × Bool × Nat) × Nat // x.2 ≤ 512 ∧ (x.1 = none → re0 + x.2 = X.all.length) ∧ (∀ y, x.1 = some y → RdOk2 y.1 y.2.1 y.2.2.1 y.2.2.2 ∧ y.2.2.2 = re0 + x.2 ∧ x.2 = 512)} => .tuple #[.int .i64 (x.1.2 : Int), if x.1.1.isNone then eofV ea else .nilIface])
      (fun x => [rc2C rc Z X.rr, r2St x.1.1, cel pb 5 (splice ps 0 (piece X.all re0 x.1.2)), EofA ea eT ef]) := by
  have hm := mth149R (.pointer (some ⟨X.rr, 0, none⟩))
  refine Con.intro Tryz.func210 rfl (by kernel_rfl) Tryz.ntmps210 (Nat.le_of_ble_eq_true rfl) ?_
  intro F
  show JC _ _ _ _ _ _ [(0, _), (1, _)] _ [_, _, _, _, _, _]
  refine sR ?_
  refine oC ?_
  refine oC ?_
  refine nC (JC.seq (sR ?_))
  refine oM ?_
  first | refine JO.py (Py.nil xe) ?_ | refine JO.py (Py.nilI xe) ?_
  refine JO.py (Py.fld fld154_1 xe xoff) ?_
  refine JO.py (Py.load scal113 xe xpick xrow) ?_
  first | refine JO.py (Py.eqlNil Tryz.underlying113 xe rfl) ?_ | refine JO.py (Py.eqlHeld Tryz.underlying113 xe rfl) ?_
  refine nC ?_
  refine cF ?_
  refine JC.skip (JX.code (sR ?_))
  refine oM ?_
  first | refine JO.py (Py.nil xe) ?_ | refine JO.py (Py.nilI xe) ?_
  refine JO.py (Py.fld fld154_1 xe xoff) ?_
  refine JO.py (Py.load scal113 xe xpick xrow) ?_
  refine oM ?_
  refine JO.invoke xe (Evs.cons xe Evs.nil) (hm) (r2Read_con G X hX ea eT ef K0 cl0 f0 re0 h0 pb ps hps) xpkE ?_
  rintro ⟨⟨s, n⟩, hx⟩
  show JO _ _ _ _ _ _ _ ((20, _) :: _) _ (_ :: _ :: _ :: _ :: _)
  dsimp only at hx ⊢
  cases s with
  | none =>
    rw [if_pos (show Option.isNone (none : Option (CkR G X ea eT ef × List Ck × Bool × Nat)) = true from rfl)]
    refine oM ?_
    refine JO.py (Py.extrI xe xix) ?_
    refine JO.py (Py.extrI xe xix) ?_
    refine oA ?_
    refine oA ?_
    refine nC (JC.seq (sR ?_))
    refine oM ?_
    first | refine JO.py (Py.neqNil Tryz.underlying70 xe rfl) ?_ | refine JO.py (Py.neqHeld Tryz.underlying70 xe rfl) ?_
    refine oM ?_
    first | (refine gT ?_; (refine oM ?_)) | refine kF ?_
    first | (refine gT ?_; (refine JO.py (Py.load scal70 ev_glob xpick xrow) ?_)) | refine kF ?_
    refine gT ?_
    refine JO.call (Evs.cons xe (Evs.cons xe Evs.nil)) (is_con G ea) xpkE ?_
    rintro _
    show JO _ _ _ _ _ _ _ ((28, _) :: _) _ (_ :: _)
    first | (refine gT ?_; (refine JO.py (Py.not xe (by first | with_reducible exact not_t | with_reducible exact not_f | exact rfl)) ?_)) | refine kF ?_
    first | refine JO.py (Py.pickT xe xe) ?_ | refine JO.py (Py.pickF xe ev_const) ?_
    refine nC ?_
    refine cF ?_
    refine JC.skip (JX.code (sR ?_))
    refine oM ?_
    refine oM ?_
    refine oA ?_
    refine oA ?_
    refine nC (JC.ret ?_)
    refine JX.end2 (Or.inl rfl) (⟨(none, n), hx⟩) Tryz.results210 (tup2 ((xe).trans (by first | exact xval | (dsimp only; exact xval))) ((xe).trans (by first | exact xval | (dsimp only; exact xval)))) xpkE
  | some y =>
    rw [if_neg (show ¬ Option.isNone (some y) = true from Bool.false_ne_true)]
    refine oM ?_
    refine JO.py (Py.extrI xe xix) ?_
    refine JO.py (Py.extrI xe xix) ?_
    refine oA ?_
    refine oA ?_
    refine nC (JC.seq (sR ?_))
    refine oM ?_
    first | refine JO.py (Py.neqNil Tryz.underlying70 xe rfl) ?_ | refine JO.py (Py.neqHeld Tryz.underlying70 xe rfl) ?_
    refine oM ?_
    first | (refine gT ?_; (refine oM ?_)) | refine kF ?_
    first | (refine gT ?_; (refine JO.py (Py.load scal70 ev_glob xpick xrow) ?_)) | refine kF ?_
    refine kF ?_
    first | (refine gT ?_; (refine JO.py (Py.not xe (by first | with_reducible exact not_t | with_reducible exact not_f | exact rfl)) ?_)) | refine kF ?_
    first | refine JO.py (Py.pickT xe xe) ?_ | refine JO.py (Py.pickF xe ev_const) ?_
    refine nC ?_
    refine cF ?_
    refine JC.skip (JX.code (sR ?_))
    refine oM ?_
    refine oM ?_
    refine oA ?_
    refine oA ?_
    refine nC (JC.ret ?_)
    refine JX.end2 (Or.inl rfl) (⟨(some y, n), hx⟩) Tryz.results210 (tup2 ((xe).trans (by first | exact xval | (dsimp only; exact xval))) ((xe).trans (by first | exact xval | (dsimp only; exact xval)))) xpkE
end Go.Proofs.YtfpepghmbeoanaaGreatDoor
end

section
open Go Go.RowKit
namespace Go.Proofs.YtfpepghmbeoanaaGreatDoor
open Lz
/-- What LZMA2's reader stands on. -/
structure L2I (G : Gst) (ea : Addr) (eT : TypeId) (ef : Nat × Nat) (all : List Nat) where
  rc : Nat
  Z : ZP
  R : R2I G ea eT ef Z all
set_option maxRecDepth 100000 in
set_option maxHeartbeats 2000000 in
theorem new46_con (G : Gst) (pb : Nat) (sv : Value) (rb rc r : Nat) (rcur : Array Value) (hr0 : rcur[0]? = some (.iface 88 (.agg #[.pointer (some ⟨r, 0, none⟩)]))) (all : List Nat) (cl : List Ck) (hd : all = cksData cl) (hok : ∀ ck ∈ cl, ck.Ok) (hlen : all.length ≤ 3000) (hby : ∀ x ∈ all, x < 256) (hst : ∀ x ∈ cksBytes cl, x < 256) (hsl : (cksBytes cl).length ≤ 1000000) (z : Nat) (ea : Addr) (eT : TypeId) (ef : Nat × Nat) :
    Con Tryz.prog G 46 #[.slice (some ⟨pb, 0, none⟩) 1 1, .int .u64 (z : Int), .slice (some ⟨rb, 0, none⟩) 1 rc] [cel pb 5 #[.int .u8 8], cel rb 90 rcur, BrA r sv 0 (-1), Row 5 sv (u8s (cksBytes cl)), EofA ea eT ef]
      (fun i : L2I G ea eT ef all => .tuple #[.iface 152 (.pointer (some ⟨i.rc, 0, none⟩)), .nilIface]) (fun i => [rc2C i.rc i.Z i.R.X.rr, r2St i.R.s, EofA ea eT ef]) := by
  obtain ⟨m, hm⟩ : ∃ m, (cksBytes cl).length = m := ⟨_, rfl⟩
  have hm1 : 1 ≤ m := by rw [← hm]; simp [cksBytes]
  refine Con.intro Tryz.func46 rfl (by kernel_rfl) Tryz.ntmps46 (Nat.le_of_ble_eq_true rfl) ?_
  intro F
  show JC _ _ _ _ _ _ [(0, _), (1, _), (2, _)] _ [_, _, _, _, _, _]
  refine JC.unrow (e := 5) (v := sv) (xs := u8s (cksBytes cl)) xpick (by intro h; have := congrArg List.length h; rw [u8s_len, hm] at this; exact absurd this (by show ¬ m = 0; omega)) ?_
  rintro sb sc ss rfl hsr
  rw [u8s_len, hm]
  have hle := hsr.le
  rw [u8s_len, hm] at hle
  have hZ : (⟨r, sb, m, sc, ss, cksBytes cl⟩ : ZP).Ok := ⟨hsr.rd hst, hm, by dsimp only; omega, hle⟩
  refine sR ?_
  refine oC ?_
  refine oC ?_
  refine nC (JC.seq (sR ?_))
  refine oM ?_
  refine JO.py (Py.lenS Tryz.underlying84 xe) ?_
  first | refine oD (Py.neq xe ev_const) ?_ | refine oU (Py.neq xe ev_const) ?_ | refine JO.py (Py.neq xe ev_const) ?_
  refine nC ?_
  refine cF ?_
  refine JC.skip (JX.code (JC.seq (sR ?_)))
  refine oM ?_
  refine JO.py (Py.lenS Tryz.underlying22 xe) ?_
  first | refine oD (Py.neq xe ev_const) ?_ | refine oU (Py.neq xe ev_const) ?_ | refine JO.py (Py.neq xe ev_const) ?_
  refine nC ?_
  refine cF ?_
  refine JC.skip (JX.code (JC.seq (sR ?_)))
  refine oM ?_
  refine JO.py (Py.idxS Tryz.underlying22 siz5 xe ev_const (by omega) xidx xmult) ?_
  refine JO.py (Py.load scal5 xe xpick xrow) ?_
  first | refine oD (Py.gtr xe ev_const) ?_ | refine oU (Py.gtr xe ev_const) ?_ | refine JO.py (Py.gtr xe ev_const) ?_
  refine nC ?_
  refine cF ?_
  refine JC.skip (JX.code (JC.seq ?_))
  refine JC.regionM [(0, true), (1, true), (2, true), (3, true), (4, true), (5, true), (6, true), (7, true), (8, true), (9, true), (10, true), (11, true), (12, true), (13, false), (14, false)] mixed (by kernel_rfl) ?_
  refine JM.py ao ⟨fun _ => Py.move xe⟩ ?_
  refine JM.py ao ⟨fun _ => Py.idxS Tryz.underlying22 siz5 xe ev_const (by omega) xidx xmult⟩ ?_
  refine JM.ld ao scal5 xe xpick xrow ?_
  first | refine JM.py ao ⟨fun _ => Py.conv cnv5_3 xe wI⟩ ?_ | refine JM.py ao ⟨fun _ => Py.conv cnv5_3 xe rfl⟩ ?_
  refine JM.py ao ⟨fun _ => Py.to (Py.mask 1 2 xe ev_const (by decide) (by decide) (by decide) (r_i64 (by omega)) wI) (v' := .int .i64 0) rfl⟩ ?_
  refine JM.py ao ⟨fun _ => Py.to (Py.orS ev_const xe (by omega) (by omega)) (v' := .int .i64 2) rfl⟩ ?_
  refine JM.py ao ⟨fun _ => Py.move xe⟩ ?_
  refine JM.py ao ⟨fun _ => Py.idxS Tryz.underlying22 siz5 xe ev_const (by omega) xidx xmult⟩ ?_
  refine JM.ld ao scal5 xe xpick xrow ?_
  refine JM.py ao ⟨fun _ => Py.quo (c := 4) xe ev_const (by decide) (by decide) (by decide)⟩ ?_
  refine JM.py ao ⟨fun _ => Py.add (c := 15) xe ev_const (by decide)⟩ ?_
  refine JM.py ao ⟨fun _ => Py.shlN 15 (c := 65536) xe xe (by decide) (by decide) (by decide)⟩ ?_
  refine JM.py ao ⟨fun _ => Py.build bld147 (Pts.cons xe Pts.nil) xfl⟩ ?_
  refine JM.eff ao ?_
  refine JO.allocA zer147 ?_; intro b8
  refine JO.nil ?_
  refine JX.mix (Kept.keep (fun _ hw => hw.cell xpick xrow) (Kept.keep (fun _ hw => hw.cell xpick xrow) Kept.nil)) ?_
  refine JM.eff ao ?_
  refine JO.storeW siz147 xe xe (by first | rfl | (simp; done) | assumption | fail) (by first | (simp [Value.oneCell']; done) | assumption | fail) xpick (by first | rfl | (simp; done) | assumption | fail) ?_
  refine JO.nil ?_
  refine JX.mix (Kept.drop (Forced.step (by kernel_rfl)) (Kept.drop (Forced.step (by kernel_rfl)) Kept.nil)) ?_
  refine JM.nil (JX.code (JC.seq (sR ?_)))
  refine JO.call (Evs.cons xe Evs.nil) (verify2_con G b8) xpkE ?_
  rintro _
  show JO _ _ _ _ _ _ _ ((38, _) :: _) _ (_ :: _ :: _)
  refine oA ?_
  refine nC (sR ?_)
  refine oM ?_
  first | refine JO.py (Py.neqNil Tryz.underlying70 xe rfl) ?_ | refine JO.py (Py.neqHeld Tryz.underlying70 xe rfl) ?_
  refine nC ?_
  refine cF ?_
  refine JC.skip (JX.code (JC.seq ?_))
  refine JC.regionM [(0, true), (1, true), (2, true), (3, true), (4, false), (5, true), (6, true), (7, true), (8, true), (9, true)] mixed (by kernel_rfl) ?_
  refine JM.ldA (vs := #[.int .i64 65536]) .zero agg147 xe xpick (by first | exact Nat.le_of_ble_eq_true rfl | assumption | (simp; omega) | fail) (by rfl) ?_
  refine JM.py ao ⟨fun _ => Py.move xe⟩ ?_
  refine JM.py ao ⟨fun _ => Py.idxS Tryz.underlying84 siz90 xe ev_const (by omega) xidx xmult⟩ ?_
  refine JM.ld ao scal90 xe xpick xrow ?_
  refine JM.shut (f := (fun p : Int => [BrA r (.slice (some ⟨sb, 0, none⟩) m sc) 0 p, cel sb 5 ss])) ((-1)) xpicks ?_
  refine JM.as (A := Ex fun p : Int => [BrA r (.slice (some ⟨sb, 0, none⟩) m sc) 0 p, cel sb 5 ss]) (A' := ZP.A ⟨r, sb, m, sc, ss, cksBytes cl⟩ 0) xpick (rfl) ?_
  refine JM.eff ao ?_
  refine JO.call (Evs.cons xe (Evs.cons xe Evs.nil)) (newR2_con G ⟨r, sb, m, sc, ss, cksBytes cl⟩ hZ all cl rfl hd hok hlen hby ea eT ef) xpkE ?_
  rintro R
  show JO _ _ _ _ _ _ _ ((47, _) :: _) _ (_ :: _ :: _ :: _)
  refine JO.nil ?_
  refine JX.mix (Kept.drop (Forced.step (by kernel_rfl)) (Kept.drop (Forced.step (by kernel_rfl)) Kept.nil)) ?_
  refine JM.py ao ⟨fun _ => Py.move xe⟩ ?_
  refine JM.py ao ⟨fun _ => Py.extrI xe xix⟩ ?_
  refine JM.py ao ⟨fun _ => Py.extrI xe xix⟩ ?_
  refine JM.py ao ⟨fun _ => Py.assign xe⟩ ?_
  refine JM.py ao ⟨fun _ => Py.assign xe⟩ ?_
  refine JM.nil (JX.code (JC.seq (sR ?_)))
  refine oM ?_
  first | refine JO.py (Py.neqNil Tryz.underlying70 xe rfl) ?_ | refine JO.py (Py.neqHeld Tryz.underlying70 xe rfl) ?_
  refine nC ?_
  refine cF ?_
  refine JC.skip (JX.code (sR ?_))
  refine oM ?_
  refine JO.py (Py.idxS Tryz.underlying84 siz90 xe ev_const (by omega) xidx xmult) ?_
  refine JO.py (Py.load scal90 xe xpick xrow) ?_
  refine oM ?_
  refine JO.py (Py.mki mki149 xe) ?_
  refine JO.py (Py.build bld154 (Pts.cons xe (Pts.cons xe Pts.nil)) xfl) ?_
  refine JO.boxA xe ?_; intro b59
  refine JO.py (Py.mki mki152 xe) ?_
  refine oA ?_
  refine oC ?_
  refine nC (JC.ret ?_)
  refine JX.end2 (Or.inl rfl) (⟨b59, ⟨r, sb, m, sc, ss, cksBytes cl⟩, R⟩) Tryz.results46 (tup2 ((xe).trans (by first | exact xval | (dsimp only; exact xval))) ((xe).trans (by first | exact xval | (dsimp only; exact xval)))) xpkE
def l2Rd (G : Gst) (ea : Addr) (eT : TypeId) (ef : Nat × Nat) (all : List Nat) (i : L2I G ea eT ef all) : RdSrc G ea eT ef where
  σ := {s : Option (CkR G i.R.X ea eT ef × List Ck × Bool × Nat) // ∀ y, s = some y → RdOk2 y.1 y.2.1 y.2.2.1 y.2.2.2}
  t := 152
  u := .pointer (some ⟨i.rc, 0, none⟩)
  f := 210
  out := all
  pos := fun s => match s.1 with | none => all.length | some y => y.2.2.2
  ms := fun s => match s.1 with | none => 0 | some y => all.length - y.2.2.2
  A := fun s => Two (rc2C i.rc i.Z i.R.X.rr) (r2St s.1)
  s0 := ⟨i.R.s, fun y h => (i.R.y y h).1⟩
  p0 := by
    show (match i.R.s with | none => all.length | some y => y.2.2.2) = 0
    cases h : i.R.s with
    | none => exact i.R.n h
    | some y => exact (i.R.y y h).2
  le := by
    rintro ⟨s, hs⟩
    cases s with
    | none => exact Nat.le_refl _
    | some y =>
      have h := hs y rfl
      have h1 := h.r
      have h2 := h.m.le
      rw [i.R.a] at h2
      show y.2.2.2 ≤ all.length
      omega
  m := mth152R _
  con := by
    rintro ⟨s, hs⟩ pb
    have hX := i.R.ok
    have ha := i.R.a
    cases s with
    | none =>
      have h := rc2Fin_con G i.R.X i.Z i.rc pb ea eT ef
      refine ⟨h.1, fun F w hw => ?_⟩
      obtain ⟨_, hw1⟩ := Sat.opens (f := fun _ : Unit => [rc2C i.rc i.Z i.R.X.rr, finCell i.R.X ea]) (l := [cel pb 5 (Array.replicate 512 (.int .u8 0)), EofA ea eT ef, F]) hw
      have hw2 : Sat G w [rc2C i.rc i.Z i.R.X.rr, finCell i.R.X ea, EofA ea eT ef, cel pb 5 (Array.replicate 512 (.int .u8 0)), F] := Sat.get hw1 xpkE
      refine (h.calls (r := [cel pb 5 (Array.replicate 512 (.int .u8 0)), F]) hw2 xpkE).mono ?_
      rintro e w' ⟨_, rfl, hs2⟩
      refine ⟨⟨(⟨none, hs⟩, 0, true), rfl, by dsimp only; omega, fun _ => rfl, fun h => by cases h⟩, rfl, ?_⟩
      have h3 : Sat G w' ([rc2C i.rc i.Z i.R.X.rr, finCell i.R.X ea] ++ [cel pb 5 (Array.replicate 512 (.int .u8 0)), EofA ea eT ef, F]) := Sat.get hs2 xpkE
      have h4 := Sat.shuts (f := fun _ : Unit => [rc2C i.rc i.Z i.R.X.rr, finCell i.R.X ea]) () h3
      show Sat G w' [Two (rc2C i.rc i.Z i.R.X.rr) (r2St none), cel pb 5 (splice (Array.replicate 512 (.int .u8 0)) 0 (piece all all.length 0)), EofA ea eT ef, F]
      rw [piece_zero, splice_nil]
      exact h4
    | some y =>
      obtain ⟨K, cl, fr, re⟩ := y
      have hy := hs _ rfl
      dsimp only at hy
      have h := rc2Read_con G i.R.X hX i.Z i.rc ea eT ef K cl fr re hy pb (Array.replicate 512 (.int .u8 0)) (by simp)
      rw [ha] at h
      refine ⟨h.1, fun F w hw => ?_⟩
      obtain ⟨_, hw1⟩ := Sat.opens (f := fun _ : Unit => [rc2C i.rc i.Z i.R.X.rr, r2St (some (K, cl, fr, re))]) (l := [cel pb 5 (Array.replicate 512 (.int .u8 0)), EofA ea eT ef, F]) hw
      have hw1' : Sat G w (r2St (some (K, cl, fr, re)) :: [rc2C i.rc i.Z i.R.X.rr, cel pb 5 (Array.replicate 512 (.int .u8 0)), EofA ea eT ef, F]) := Sat.get hw1 xpkE
      have hw2 : Sat G w ((Ex fun _ : Unit => rdCells K fr re) :: [rc2C i.rc i.Z i.R.X.rr, cel pb 5 (Array.replicate 512 (.int .u8 0)), EofA ea eT ef, F]) := hw1'
      obtain ⟨_, hw3⟩ := hw2.opens
      refine (h.calls (r := [F]) hw3 xpkE).mono ?_
      rintro e w' ⟨⟨⟨s2, n⟩, g1, g2, g3⟩, rfl, hs2⟩
      dsimp only at g1 g2 g3
      refine ⟨⟨(⟨s2, fun y h => (g3 y h).1⟩, n, s2.isNone), ?_, g1, ?_, ?_⟩, rfl, ?_⟩
      · cases s2 with
        | none => exact (g2 rfl).symm
        | some y => exact (g3 y rfl).2.1
      · intro h
        cases s2 with
        | none => rfl
        | some y => cases h
      · intro h
        cases s2 with
        | none => cases h
        | some y =>
          obtain ⟨q1, q2, q3⟩ := g3 y rfl
          have h1 := q1.r
          have h2 := q1.m.le
          rw [ha] at h2
          show all.length - y.2.2.2 < all.length - re
          omega
      · have h3 : Sat G w' ([rc2C i.rc i.Z i.R.X.rr, r2St s2] ++ [cel pb 5 (splice (Array.replicate 512 (.int .u8 0)) 0 (piece all re n)), EofA ea eT ef, F]) := Sat.get hs2 xpkE
        exact Sat.shuts (f := fun _ : Unit => [rc2C i.rc i.Z i.R.X.rr, r2St s2]) () h3
theorem new46R_con (G : Gst) (pb : Nat) (sv : Value) (rb rc r : Nat) (rcur : Array Value) (hr0 : rcur[0]? = some (.iface 88 (.agg #[.pointer (some ⟨r, 0, none⟩)]))) (all : List Nat) (cl : List Ck) (hd : all = cksData cl) (hok : ∀ ck ∈ cl, ck.Ok) (hlen : all.length ≤ 3000) (hby : ∀ x ∈ all, x < 256) (hst : ∀ x ∈ cksBytes cl, x < 256) (hsl : (cksBytes cl).length ≤ 1000000) (z : Nat) (ea : Addr) (eT : TypeId) (ef : Nat × Nat) :
    Con Tryz.prog G 46 #[.slice (some ⟨pb, 0, none⟩) 1 1, .int .u64 (z : Int), .slice (some ⟨rb, 0, none⟩) 1 rc] [cel pb 5 #[.int .u8 8], cel rb 90 rcur, BrA r sv 0 (-1), Row 5 sv (u8s (cksBytes cl)), EofA ea eT ef]
      (fun i : L2I G ea eT ef all => .tuple #[.iface (l2Rd G ea eT ef all i).t (l2Rd G ea eT ef all i).u, .nilIface]) (fun i => [(l2Rd G ea eT ef all i).A (l2Rd G ea eT ef all i).s0, EofA ea eT ef]) := by
  have h := new46_con G pb sv rb rc r rcur hr0 all cl hd hok hlen hby hst hsl z ea eT ef
  refine Con.conseq h fun F w hw => ⟨F, hw, ?_⟩
  rintro i w' hw'
  exact ⟨i, rfl, Sat.shuts (f := fun _ : Unit => [rc2C i.rc i.Z i.R.X.rr, r2St i.R.s]) () hw'⟩
theorem implL2_con (G : Gst) (ea : Addr) (eT : TypeId) (ef : Nat × Nat) (bv : Value) (all : List Nat) (cl : List Ck) (hd : all = cksData cl) (hok : ∀ ck ∈ cl, ck.Ok) (hlen : all.length ≤ 3000) (hby : ∀ x ∈ all, x < 256) (hst : ∀ x ∈ cksBytes cl, x < 256) (hsl : (cksBytes cl).length ≤ 1000000) (z : Nat) (hz : all.length = z) :
    Con Tryz.prog G 10 #[.int .u8 8, .int .i64 (z : Int), bv] [Row 5 bv (u8s (cksBytes cl)), EofA ea eT ef] (fun v : Value => .tuple #[v, .bool true]) (fun v => [Row 5 v (u8s all), EofA ea eT ef]) := by
  refine Con.intro Tryz.func10 rfl (by kernel_rfl) Tryz.ntmps10 (Nat.le_of_ble_eq_true rfl) ?_
  intro F
  show JC _ _ _ _ _ _ [(0, _), (1, _), (2, _)] _ [_, _, _]
  refine sR ?_
  refine oC ?_
  refine oC ?_
  refine nC (sR ?_)
  refine JO.bslice Tryz.underlying22 elm5 (Evs.cons ev_const Evs.nil) rfl rfl (by first | (simp [Value.oneCell']; done) | (simp only [List.mem_cons, List.not_mem_nil, or_false, forall_eq]; assumption) | fail) (by decide) ?_; intro b8
  refine oM ?_
  refine JO.bslice Tryz.underlying22 elm5 (Evs.cons xe Evs.nil) rfl rfl (by first | (simp [Value.oneCell']; done) | (simp only [List.mem_cons, List.not_mem_nil, or_false, forall_eq]; assumption) | fail) (by decide) ?_; intro b10
  refine oM ?_
  refine oM ?_
  refine JO.as (A := cel b8 5 #[.int .u8 33]) (A' := cel b8 5 (u8s [33]).toArray) xpick (rfl) ?_
  refine JO.call (Evs.cons xe (Evs.cons xe (Evs.cons xe (Evs.cons xe Evs.nil)))) (method_con G ea eT ef b8 [33] 1 rfl (by decide) 46 (.inr (.inl ⟨rfl, rfl⟩)) (.slice (some ⟨b10, 0, none⟩) 1 1) bv z (by omega) (cksBytes cl) hst hsl (cel b10 5 #[.int .u8 8]) (l2Rd G ea eT ef all) all (fun _ => rfl) (by omega) hby (fun sv rb rc r rcur hr0 => new46R_con G b10 sv rb rc r rcur hr0 all cl hd hok hlen hby hst hsl z ea eT ef)) xpkE ?_
  rintro v
  show JO _ _ _ _ _ _ _ ((13, _) :: _) _ (_ :: _ :: _ :: _)
  refine JO.py (Py.extrI xe xix) ?_
  refine JO.py (Py.extrI xe xix) ?_
  refine oA ?_
  refine oA ?_
  refine nC (JC.ret ?_)
  refine JX.end2 (Or.inl rfl) (v) Tryz.results10 (tup2 ((xe).trans (by first | exact xval | (dsimp only; exact xval))) ((xe).trans (by first | exact xval | (dsimp only; exact xval)))) xpkE
end Go.Proofs.YtfpepghmbeoanaaGreatDoor
end

section
open Go Go.RowKit
namespace Go.Proofs.YtfpepghmbeoanaaGreatDoor
open Lz
section
variable {P : Program} {G : Gst} {ops : Array Oper} {Q : Exit → Act → World → Prop} {n : Nat} {base : Nat → Value} {L : List (Nat × Value)} {D : List Deferred} {As r : List Asn}
theorem Py.str0 {src dst e : TypeId} {x : Operand} {a : Option Addr} {c : Nat} (hs : P.underlying src = some (.slice e)) (he : P.underlying e = some (.int .u8)) (hd : P.underlying dst = some .string) (hx : ev n base L x = .slice a 0 c) (h : a = none → c = 0) :
    Py P G n base L As (.convert src dst x) (.string (strB [])) := by
  cases a with
  | none => obtain rfl := h rfl; exact Py.strN hs he hd hx
  | some a => exact Py.str hs he hd hx rfl (by simp) (fun w hw j v hj => by simp [u8s] at hj)
theorem JO.rowV0 {e : TypeId} {v : Value} {l : List Oper} (q : Pick (Row e v []) As r) (k : ∀ a c, v = .slice a 0 c → (a = none → c = 0) → JO P G ops Q l n base L D As) : JO P G ops Q l n base L D As :=
  ⟨fun w hw => by
    obtain ⟨h1, h2, _, _, hA, _⟩ := (hw.pick q).mem
    rcases hA with ⟨hv, _⟩ | ⟨b, cap, cur, hv, _⟩
    · exact (k none 0 hv (fun _ => rfl)).run w hw
    · exact (k (some ⟨b, 0, none⟩) cap hv (fun h => by cases h)).run w hw⟩
end
/-- A text, or a list, that is too long: nothing is asked. -/
theorem law4_out (G : Gst) (ba : Option Addr) (bl bc : Nat) (wv : Array Value) (x : Int) (pa : Option Addr) (pl pc : Nat) (h : 3000 < bl ∨ 100 < pl) (hb : bl < 9223372036854775808) (hp : pl < 9223372036854775808) :
    Con Tryz.prog G 4 #[.slice ba bl bc, .agg wv, .int .u8 x, .slice pa pl pc] [] (fun _ : Unit => .bool true) (fun _ => []) := by
  refine Con.intro Tryz.func4 rfl (by kernel_rfl) Tryz.ntmps4 (Nat.le_of_ble_eq_true rfl) ?_
  intro F
  show JC _ _ _ _ _ _ [(0, _), (1, _), (2, _), (3, _)] _ [_]
  by_cases h1 : 2147483647 < bl
  · skip
    refine sR ?_
    refine JO.boxA xe ?_; intro b5
    refine oC ?_
    refine nC (JC.seq (sR ?_))
    refine oM ?_
    refine JO.py (Py.lenS Tryz.underlying22 xe) ?_
    first | refine oD (Py.gtr xe ev_const) ?_ | refine oU (Py.gtr xe ev_const) ?_ | refine JO.py (Py.gtr xe ev_const) ?_
    refine oM ?_
    first | (refine gF ?_; (refine oM ?_)) | refine kT ?_
    first | (refine gF ?_; (refine JO.py (Py.lenS Tryz.underlying33 xe) ?_)) | refine kT ?_
    first | (refine gF ?_; (first | refine oD (Py.gtr xe ev_const) ?_ | refine oU (Py.gtr xe ev_const) ?_ | refine JO.py (Py.gtr xe ev_const) ?_)) | refine kT ?_
    first | refine JO.py (Py.pickT xe ev_const) ?_ | refine JO.py (Py.pickF xe xe) ?_
    refine nC ?_
    refine cT ?_
    refine sR ?_
    refine oC ?_
    refine nC (JC.ret (JX.ret ?_))
    refine JX.end1 (Or.inl rfl) (()) Tryz.results4 ((xe).trans (by first | exact xval | (dsimp only; exact xval))) xpkE
  · skip
    by_cases h2 : 2147483647 < pl
    · skip
      refine sR ?_
      refine JO.boxA xe ?_; intro b5
      refine oC ?_
      refine nC (JC.seq (sR ?_))
      refine oM ?_
      refine JO.py (Py.lenS Tryz.underlying22 xe) ?_
      first | refine oD (Py.gtr xe ev_const) ?_ | refine oU (Py.gtr xe ev_const) ?_ | refine JO.py (Py.gtr xe ev_const) ?_
      refine oM ?_
      first | (refine gF ?_; (refine oM ?_)) | refine kT ?_
      first | (refine gF ?_; (refine JO.py (Py.lenS Tryz.underlying33 xe) ?_)) | refine kT ?_
      first | (refine gF ?_; (first | refine oD (Py.gtr xe ev_const) ?_ | refine oU (Py.gtr xe ev_const) ?_ | refine JO.py (Py.gtr xe ev_const) ?_)) | refine kT ?_
      first | refine JO.py (Py.pickT xe ev_const) ?_ | refine JO.py (Py.pickF xe xe) ?_
      refine nC ?_
      refine cT ?_
      refine sR ?_
      refine oC ?_
      refine nC (JC.ret (JX.ret ?_))
      refine JX.end1 (Or.inl rfl) (()) Tryz.results4 ((xe).trans (by first | exact xval | (dsimp only; exact xval))) xpkE
    · skip
      by_cases h3 : 3000 < bl
      · skip
        refine sR ?_
        refine JO.boxA xe ?_; intro b5
        refine oC ?_
        refine nC (JC.seq (sR ?_))
        refine oM ?_
        refine JO.py (Py.lenS Tryz.underlying22 xe) ?_
        first | refine oD (Py.gtr xe ev_const) ?_ | refine oU (Py.gtr xe ev_const) ?_ | refine JO.py (Py.gtr xe ev_const) ?_
        refine oM ?_
        first | (refine gF ?_; (refine oM ?_)) | refine kT ?_
        first | (refine gF ?_; (refine JO.py (Py.lenS Tryz.underlying33 xe) ?_)) | refine kT ?_
        first | (refine gF ?_; (first | refine oD (Py.gtr xe ev_const) ?_ | refine oU (Py.gtr xe ev_const) ?_ | refine JO.py (Py.gtr xe ev_const) ?_)) | refine kT ?_
        first | refine JO.py (Py.pickT xe ev_const) ?_ | refine JO.py (Py.pickF xe xe) ?_
        refine nC ?_
        refine cF ?_
        refine JC.skip (JX.code (JC.seq (sR ?_)))
        refine oM ?_
        refine JO.py (Py.lenS Tryz.underlying22 xe) ?_
        first | refine oD (Py.gtr xe ev_const) ?_ | refine oU (Py.gtr xe ev_const) ?_ | refine JO.py (Py.gtr xe ev_const) ?_
        refine oM ?_
        first | (refine gF ?_; (refine oM ?_)) | refine kT ?_
        first | (refine gF ?_; (refine JO.py (Py.lenS Tryz.underlying33 xe) ?_)) | refine kT ?_
        first | (refine gF ?_; (first | refine oD (Py.gtr xe ev_const) ?_ | refine oU (Py.gtr xe ev_const) ?_ | refine JO.py (Py.gtr xe ev_const) ?_)) | refine kT ?_
        first | refine JO.py (Py.pickT xe ev_const) ?_ | refine JO.py (Py.pickF xe xe) ?_
        refine nC ?_
        refine cT ?_
        refine sR ?_
        refine oC ?_
        refine nC (JC.ret (JX.ret ?_))
        refine JX.end1 (Or.inl rfl) (()) Tryz.results4 ((xe).trans (by first | exact xval | (dsimp only; exact xval))) xpkE
      · skip
        have h4 : 100 < pl := by omega
        refine sR ?_
        refine JO.boxA xe ?_; intro b5
        refine oC ?_
        refine nC (JC.seq (sR ?_))
        refine oM ?_
        refine JO.py (Py.lenS Tryz.underlying22 xe) ?_
        first | refine oD (Py.gtr xe ev_const) ?_ | refine oU (Py.gtr xe ev_const) ?_ | refine JO.py (Py.gtr xe ev_const) ?_
        refine oM ?_
        first | (refine gF ?_; (refine oM ?_)) | refine kT ?_
        first | (refine gF ?_; (refine JO.py (Py.lenS Tryz.underlying33 xe) ?_)) | refine kT ?_
        first | (refine gF ?_; (first | refine oD (Py.gtr xe ev_const) ?_ | refine oU (Py.gtr xe ev_const) ?_ | refine JO.py (Py.gtr xe ev_const) ?_)) | refine kT ?_
        first | refine JO.py (Py.pickT xe ev_const) ?_ | refine JO.py (Py.pickF xe xe) ?_
        refine nC ?_
        refine cF ?_
        refine JC.skip (JX.code (JC.seq (sR ?_)))
        refine oM ?_
        refine JO.py (Py.lenS Tryz.underlying22 xe) ?_
        first | refine oD (Py.gtr xe ev_const) ?_ | refine oU (Py.gtr xe ev_const) ?_ | refine JO.py (Py.gtr xe ev_const) ?_
        refine oM ?_
        first | (refine gF ?_; (refine oM ?_)) | refine kT ?_
        first | (refine gF ?_; (refine JO.py (Py.lenS Tryz.underlying33 xe) ?_)) | refine kT ?_
        first | (refine gF ?_; (first | refine oD (Py.gtr xe ev_const) ?_ | refine oU (Py.gtr xe ev_const) ?_ | refine JO.py (Py.gtr xe ev_const) ?_)) | refine kT ?_
        first | refine JO.py (Py.pickT xe ev_const) ?_ | refine JO.py (Py.pickF xe xe) ?_
        refine nC ?_
        refine cT ?_
        refine sR ?_
        refine oC ?_
        refine nC (JC.ret (JX.ret ?_))
        refine JX.end1 (Or.inl rfl) (()) Tryz.results4 ((xe).trans (by first | exact xval | (dsimp only; exact xval))) xpkE
set_option maxRecDepth 100000 in
set_option maxHeartbeats 4000000 in
theorem law4_in (G : Gst) (bb ob bl bc : Nat) (ba : Option Addr) (hba : 0 < bl → ba = some ⟨bb, ob, none⟩ ∧ bl ≤ bc) (cs : Array Value) (Tb : TypeId) (fr : Nat × Nat) (bs : List Nat) (hb : RdOk cs ob bs) (hbl : bs.length = bl) (h2 : bl ≤ 3000) (hbc : bc < 9223372036854775808) (hb0 : bl = 0 → ba = none → bc = 0)
    (pa : Option Addr) (pb po plen pcap : Nat) (hpl : plen ≤ 100) (B : Nat → Bool) (hpa : 0 < plen → pa = some ⟨pb, po, none⟩) (E : Asn) (hP : ∀ w r, Sat G w (blk bb (.cells cs Tb fr) :: E :: r) → ∀ j, j < plen → w.cell? ⟨pb, po + j, none⟩ = some (.bool (B j)))
    (x0 x1 x2 x3 x4 x5 pc : Nat) (g0 : x0 < 256) (g1 : x1 < 256) (g2 : x2 < 256) (g3 : x3 < 256) (g4 : x4 < 256) (g5 : x5 < 256) (gp : pc < 256) (ea : Addr) (eT : TypeId) (ef : Nat × Nat) :
    Con Tryz.prog G 4 #[.slice ba bl bc, .agg #[vu8 x0, vu8 x1, vu8 x2, vu8 x3, vu8 x4, vu8 x5], vu8 pc, .slice pa plen pcap] [blk bb (.cells cs Tb fr), E, EofA ea eT ef] (fun _ : Unit => .bool true) (fun _ => [blk bb (.cells cs Tb fr), E, EofA ea eT ef]) := by
  have hby := hb.lt
  have hc1 : (⟨3, 0, 2⟩ : Cfg).Ok := ⟨by decide, by decide⟩
  have hrb : ∀ j v, (u8s bs)[j]? = some v → cs[ob + j]? = some v := by
    intro j v hv
    have hj : j < bs.length := by have := (List.getElem?_eq_some_iff.1 hv).1; rwa [u8s_len] at this
    rw [(hb j hj).1]
    simp [u8s, hj] at hv ⊢
    exact hv
  have hrd7 : RdOk #[.int .u8 7] 0 [7] := by
    intro i hi
    obtain rfl : i = 0 := by simpa using hi
    exact ⟨rfl, by decide⟩
  refine Con.intro Tryz.func4 rfl (by kernel_rfl) Tryz.ntmps4 (Nat.le_of_ble_eq_true rfl) ?_
  intro F
  show JC _ _ _ _ _ _ [(0, _), (1, _), (2, _), (3, _)] _ [_, _, _, _]
  refine sR ?_
  refine JO.boxA xe ?_; intro b5
  refine oC ?_
  refine nC (JC.seq (sR ?_))
  refine oM ?_
  refine JO.py (Py.lenS Tryz.underlying22 xe) ?_
  first | refine oD (Py.gtr xe ev_const) ?_ | refine oU (Py.gtr xe ev_const) ?_ | refine JO.py (Py.gtr xe ev_const) ?_
  refine oM ?_
  first | (refine gF ?_; (refine oM ?_)) | refine kT ?_
  first | (refine gF ?_; (refine JO.py (Py.lenS Tryz.underlying33 xe) ?_)) | refine kT ?_
  first | (refine gF ?_; (first | refine oD (Py.gtr xe ev_const) ?_ | refine oU (Py.gtr xe ev_const) ?_ | refine JO.py (Py.gtr xe ev_const) ?_)) | refine kT ?_
  first | refine JO.py (Py.pickT xe ev_const) ?_ | refine JO.py (Py.pickF xe xe) ?_
  refine nC ?_
  refine cF ?_
  refine JC.skip (JX.code (JC.seq (sR ?_)))
  refine oM ?_
  refine JO.py (Py.lenS Tryz.underlying22 xe) ?_
  first | refine oD (Py.gtr xe ev_const) ?_ | refine oU (Py.gtr xe ev_const) ?_ | refine JO.py (Py.gtr xe ev_const) ?_
  refine oM ?_
  first | (refine gF ?_; (refine oM ?_)) | refine kT ?_
  first | (refine gF ?_; (refine JO.py (Py.lenS Tryz.underlying33 xe) ?_)) | refine kT ?_
  first | (refine gF ?_; (first | refine oD (Py.gtr xe ev_const) ?_ | refine oU (Py.gtr xe ev_const) ?_ | refine JO.py (Py.gtr xe ev_const) ?_)) | refine kT ?_
  first | refine JO.py (Py.pickT xe ev_const) ?_ | refine JO.py (Py.pickF xe xe) ?_
  refine nC ?_
  refine cF ?_
  refine JC.skip (JX.code (sR ?_))
  refine JO.py (Py.loadA (vs := #[vu8 x0, vu8 x1, vu8 x2, vu8 x3, vu8 x4, vu8 x5]) agg24 xe xpick (by first | exact Nat.le_of_ble_eq_true rfl | assumption | (simp; omega) | fail) (by rfl)) ?_
  refine JO.call (Evs.cons xe Evs.nil) (way_con G x0 x1 x2 x3 x4 x5 g0 g1 g2 g3 g4 g5) xpkE ?_
  rintro ⟨⟨wf, wd, ws, c⟩, hc⟩
  show JO _ _ _ _ _ _ _ ((31, _) :: _) _ (_ :: _)
  dsimp only at hc ⊢
  refine JO.allocA zer26 ?_; intro b9
  refine JO.storeW siz26 xe xe (by first | rfl | (simp; done) | assumption | fail) (by first | (simp [Value.oneCell']; done) | assumption | fail) xpick (by first | rfl | (simp; done) | assumption | fail) ?_
  refine nC (sR ?_)
  refine oM ?_
  refine JO.py (Py.lenS Tryz.underlying22 xe) ?_
  refine oM ?_
  refine oM ?_
  first | refine JO.py (Py.conv cnv5_3 xe wI) ?_ | refine JO.py (Py.conv cnv5_3 xe rfl) ?_
  refine JO.py (Py.mul ev_const xe wI) ?_
  refine JO.py (Py.add ev_const xe wI) ?_
  refine oM ?_
  refine JO.py (Py.fld fld26_3 xe xoff) ?_
  refine JO.py (Py.load scal3 xe xpick xrow) ?_
  refine JO.py (Py.fld fld26_4 xe xoff) ?_
  refine JO.py (Py.load scal3 xe xpick xrow) ?_
  refine JO.py (Py.fld fld26_5 xe xoff) ?_
  refine JO.py (Py.load scal3 xe xpick xrow) ?_
  rw [show (40 + 10 * (pc : Int)) = ((40 + 10 * pc : Nat) : Int) by omega]
  refine JO.call (Evs.cons xe (Evs.cons xe (Evs.cons xe (Evs.cons xe (Evs.cons xe (Evs.cons xe Evs.nil)))))) (lzma2_con G bb ob bl bc ba hba cs Tb fr bs hb hbl h2 hbc c hc (40 + 10 * pc) (by omega) pa pb po plen pcap (by omega) B hpa E hP) xpkE ?_
  rintro ⟨⟨lv, cl⟩, hcl⟩
  show JO _ _ _ _ _ _ _ ((47, _) :: _) _ (_ :: _ :: _ :: _ :: _)
  dsimp only at hcl ⊢
  have hd : bs = cksData cl := by rw [hcl.d, ← hbl, List.take_length]
  have hlen := hcl.len
  have hcb : ∀ x ∈ cksBytes cl, x < 256 := by
    intro x hx
    simp only [cksBytes, List.mem_append, List.mem_singleton] at hx
    rcases hx with hx | rfl
    · exact hcl.by' x hx
    · decide
  have hcbl : (cksBytes cl).length ≤ 1000000 := by simp only [cksBytes, List.length_append, List.length_singleton]; omega
  refine JO.call (Evs.cons ev_const (Evs.cons xe (Evs.cons xe Evs.nil))) (implL2_con G ea eT ef lv bs cl hd hcl.ok (by omega) hby hcb hcbl bl hbl) xpkE ?_
  rintro gv
  show JO _ _ _ _ _ _ _ ((48, _) :: _) _ (_ :: _ :: _ :: _)
  refine oM ?_
  refine JO.py (Py.extrI xe xix) ?_
  refine JO.py (Py.extrI xe xix) ?_
  refine oA ?_
  refine oA ?_
  refine nC (sR ?_)
  refine JO.bslice Tryz.underlying22 elm5 (Evs.cons ev_const Evs.nil) rfl rfl (by first | (simp [Value.oneCell']; done) | (simp only [List.mem_cons, List.not_mem_nil, or_false, forall_eq]; assumption) | fail) (by decide) ?_; intro b52
  refine JO.call (Evs.cons xe (Evs.cons ev_const (Evs.cons ev_const (Evs.cons ev_const (Evs.cons ev_const (Evs.cons ev_const Evs.nil)))))) (lzma2_con G b52 0 1 1 (some ⟨b52, 0, none⟩) (fun _ => ⟨rfl, Nat.le_refl _⟩) #[.int .u8 7] 5 (0, 0) [7] hrd7 rfl (by decide) (by decide) ⟨3, 0, 2⟩ hc1 100 (by decide) none 0 0 0 0 (by decide) (fun _ => false) (fun h => absurd h (by decide)) E (fun w r hw j hj => absurd hj (by omega))) xpkE ?_
  rintro ⟨⟨lv2, cl2⟩, hcl2⟩
  show JO _ _ _ _ _ _ _ ((53, _) :: _) _ (_ :: _ :: _ :: _ :: _)
  dsimp only at hcl2 ⊢
  have hd2 : [7] = cksData cl2 := by rw [hcl2.d]; rfl
  have hlen2 := hcl2.len
  have hcb2 : ∀ x ∈ cksBytes cl2, x < 256 := by
    intro x hx
    simp only [cksBytes, List.mem_append, List.mem_singleton] at hx
    rcases hx with hx | rfl
    · exact hcl2.by' x hx
    · decide
  have hcbl2 : (cksBytes cl2).length ≤ 1000000 := by simp only [cksBytes, List.length_append, List.length_singleton]; omega
  refine JO.call (Evs.cons ev_const (Evs.cons ev_const (Evs.cons xe Evs.nil))) (implL2_con G ea eT ef lv2 [7] cl2 hd2 hcl2.ok (by decide) (by decide) hcb2 hcbl2 1 rfl) xpkE ?_
  rintro ov
  show JO _ _ _ _ _ _ _ ((54, _) :: _) _ (_ :: _ :: _ :: _)
  refine oM ?_
  refine JO.py (Py.extrI xe xix) ?_
  refine JO.py (Py.extrI xe xix) ?_
  refine oA ?_
  refine oA ?_
  refine nC (sR ?_)
  refine oM ?_
  refine oM ?_
  first | (refine gT ?_; (refine oM ?_)) | refine kF ?_
  refine JO.rowV (e := 5) (v := ov) (xs := u8s [7]) xpick ?_
  rintro oa oc hov -
  rw [show (u8s [7]).length = 1 from rfl] at hov
  subst hov
  rcases Nat.eq_zero_or_pos bl with hz | hz
  · skip
    subst hz
    obtain rfl : bs = [] := List.eq_nil_of_length_eq_zero hbl
    rw [show u8s [] = [] from rfl]
    refine JO.rowV0 (e := 5) (v := gv) xpick ?_
    rintro ga gc rfl hga
    refine gT ?_
    refine JO.py (Py.str0 Tryz.underlying22 Tryz.underlying5 Tryz.underlying9 xe hga) ?_
    first | (refine gT ?_; (refine oM ?_)) | refine kF ?_
    refine gT ?_
    refine JO.py (Py.str0 Tryz.underlying22 Tryz.underlying5 Tryz.underlying9 xe (hb0 rfl)) ?_
    refine gT ?_
    refine JO.py (Py.streq (c := true) xe xe ((str_beq (a := []) (b := []) (by simp) (by simp)).trans (decide_eq_true rfl))) ?_
    first | refine JO.py (Py.pickT xe xe) ?_ | refine JO.py (Py.pickF xe ev_const) ?_
    refine oM ?_
    first | (refine gT ?_; (refine oM ?_)) | refine kF ?_
    first | (refine gT ?_; (refine JO.py (Py.lenS Tryz.underlying22 xe) ?_)) | refine kF ?_
    first | (refine gT ?_; (first | refine oD (Py.eql xe ev_const) ?_ | refine oU (Py.eql xe ev_const) ?_ | refine JO.py (Py.eql xe ev_const) ?_)) | refine kF ?_
    first | refine JO.py (Py.pickT xe xe) ?_ | refine JO.py (Py.pickF xe ev_const) ?_
    refine oA ?_
    refine nC (JC.ret ?_)
    refine JX.end1 (Or.inl rfl) (()) Tryz.results4 ((xe).trans (by first | exact xval | (dsimp only; exact xval))) xpkE
  · skip
    obtain ⟨rfl, -⟩ := hba hz
    refine JO.unrow (e := 5) (v := gv) (xs := u8s bs) xpick (by intro h; have := congrArg List.length h; rw [u8s_len, hbl] at this; exact absurd this (by show ¬ bl = 0; omega)) ?_
    rintro gb gc gcur rfl hgr
    have hgg : ∀ j v, (u8s bs)[j]? = some v → gcur[0 + j]? = some v := fun j v h => by rw [Nat.zero_add]; exact hgr.get h
    rw [u8s_len, hbl]
    refine gT ?_
    refine JO.py (Py.str Tryz.underlying22 Tryz.underlying5 Tryz.underlying9 xe hbl hby (Reads.cel xpick hgg)) ?_
    first | (refine gT ?_; (refine oM ?_)) | refine kF ?_
    refine gT ?_
    refine JO.py (Py.str Tryz.underlying22 Tryz.underlying5 Tryz.underlying9 xe hbl hby (Reads.cel xpick hrb)) ?_
    refine gT ?_
    refine JO.py (Py.streq (c := true) xe xe ((str_beq hby hby).trans (decide_eq_true rfl))) ?_
    first | refine JO.py (Py.pickT xe xe) ?_ | refine JO.py (Py.pickF xe ev_const) ?_
    refine oM ?_
    first | (refine gT ?_; (refine oM ?_)) | refine kF ?_
    first | (refine gT ?_; (refine JO.py (Py.lenS Tryz.underlying22 xe) ?_)) | refine kF ?_
    first | (refine gT ?_; (first | refine oD (Py.eql xe ev_const) ?_ | refine oU (Py.eql xe ev_const) ?_ | refine JO.py (Py.eql xe ev_const) ?_)) | refine kF ?_
    first | refine JO.py (Py.pickT xe xe) ?_ | refine JO.py (Py.pickF xe ev_const) ?_
    refine oA ?_
    refine nC (JC.ret ?_)
    refine JX.end1 (Or.inl rfl) (()) Tryz.results4 ((xe).trans (by first | exact xval | (dsimp only; exact xval))) xpkE
end Go.Proofs.YtfpepghmbeoanaaGreatDoor
end
