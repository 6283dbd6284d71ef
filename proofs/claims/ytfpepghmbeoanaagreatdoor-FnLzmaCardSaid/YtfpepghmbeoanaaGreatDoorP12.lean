/-
The header and the stream of LZMA, one behind the other.
The reader of LZMA is made, out of its properties and its stream.
All that a method gives: ZZMethod over a reader.
LZMA as a reader; the thin package's calls.
-/
import Derived.Test.YtfpepghmbeoanaaGreatDoorP11
set_option linter.unusedSimpArgs false
set_option linter.unusedVariables false
section
open Go Go.RowKit
namespace Go.Proofs.YtfpepghmbeoanaaGreatDoor
open Lz
set_option linter.unusedSimpArgs false
set_option linter.unusedVariables false
theorem piece_eq {all : List Nat} {i m : Nat} (h : i + m ≤ all.length) : piece all i m = u8s ((all.drop i).take m) := by
  apply List.ext_getElem?
  intro j
  by_cases hj : j < m
  · have : i + j < all.length := by omega
    simp [piece, u8s, hj, List.getElem?_take, List.getElem?_drop, this]
  · simp [piece, u8s, hj]; omega
/-- Where the bytes of LZMA lie: the readers' blocks, the header's row, the stream's row. -/
structure LzP where
  mb : Nat
  bf : Nat
  hb : Nat
  hc : Nat
  hcur : Array Value
  lr : Int
  r : Nat
  sb : Nat
  m : Nat
  sc : Nat
  ss : Array Value
  ch : Nat
  cs : Nat
  hdr : List Nat
  stream : List Nat
structure LzP.Ok (X : LzP) : Prop where
  h : RdOk X.hcur 0 X.hdr
  hl : X.hdr.length = 13
  hs : X.hcur.size = X.hc
  hc : 13 ≤ X.hc
  s : RdOk X.ss 0 X.stream
  sl : X.stream.length = X.m
  sm : X.m ≤ 1000000
abbrev LzP.mbA (X : LzP) : Asn := cel X.mb 173 #[.pointer (some ⟨X.bf, 0, none⟩), .iface 88 (.agg #[.pointer (some ⟨X.r, 0, none⟩)]), .iface 210 (.pointer (some ⟨X.ch, 0, none⟩))]
/-- Nothing is read yet. -/
abbrev LzP.heads (X : LzP) (ea : Addr) (eT : TypeId) (ef : Nat × Nat) : List Asn :=
  [X.mbA, cel X.ch 212 #[.slice (some ⟨X.cs, 0, none⟩) 2 2], cel X.cs 113 #[.iface 106 (.pointer (some ⟨X.bf, 0, none⟩)), .iface 88 (.agg #[.pointer (some ⟨X.r, 0, none⟩)])],
    BufA X.bf (.slice (some ⟨X.hb, 0, none⟩) 13 X.hc) 0 X.lr, cel X.hb 5 X.hcur, BrA X.r (.slice (some ⟨X.sb, 0, none⟩) X.m X.sc) 0 (-1), cel X.sb 5 X.ss, EofA ea eT ef]
def LzP.HdA (X : LzP) (ea : Addr) (eT : TypeId) (ef : Nat × Nat) : Asn := Ex fun _ : Unit => X.heads ea eT ef
/-- These bytes of the stream are left. -/
def LzP.SrA (X : LzP) (rest : List Nat) : Asn := Ex fun g : {g : Nat × Int // g.1 + rest.length = X.m ∧ X.stream.drop g.1 = rest} =>
  [X.mbA, BufA X.bf (.slice (some ⟨X.hb, 0, none⟩) 13 X.hc) 13 (-1), BrA X.r (.slice (some ⟨X.sb, 0, none⟩) X.m X.sc) g.1.1 g.1.2, cel X.sb 5 X.ss]
theorem LzP.byte (G : Gst) (X : LzP) (hX : X.Ok) (x : Nat) (rest : List Nat) (hx : x < 256) : Con Tryz.prog G 224 [.pointer (some ⟨X.mb, 0, none⟩)].toArray [X.SrA (x :: rest)] (fun _ : Unit => .tuple #[vu8 x, .nilIface]) (fun _ => [X.SrA rest]) := by
  obtain ⟨mb, bf, hb, hc, hcur, lr, r, sb, m, sc, ss, ch, cs, hdr, stream⟩ := X
  obtain ⟨-, -, -, h13, hs, hsl, hsm⟩ := hX
  dsimp only at h13 hs hsl hsm
  have hm := mth88B (.pointer (some ⟨r, 0, none⟩))
  refine Con.intro Tryz.func224 rfl (by kernel_rfl) Tryz.ntmps224 (Nat.le_of_ble_eq_true rfl) ?_
  intro F
  show JC _ _ _ _ _ _ [(0, _)] _ [_, _]
  refine JC.as (A := LzP.SrA ⟨mb, bf, hb, hc, hcur, lr, r, sb, m, sc, ss, ch, cs, hdr, stream⟩ (x :: rest)) (A' := Ex fun g : {g : Nat × Int // g.1 + (x :: rest).length = m ∧ stream.drop g.1 = x :: rest} => [cel mb 173 #[.pointer (some ⟨bf, 0, none⟩), .iface 88 (.agg #[.pointer (some ⟨r, 0, none⟩)]), .iface 210 (.pointer (some ⟨ch, 0, none⟩))], BufA bf (.slice (some ⟨hb, 0, none⟩) 13 hc) 13 (-1), BrA r (.slice (some ⟨sb, 0, none⟩) m sc) g.1.1 g.1.2, cel sb 5 ss]) xpick (rfl) ?_
  refine JC.open xpick ?_
  rintro ⟨⟨i, p⟩, hi, hd⟩
  show JC _ _ _ _ _ _ _ _ (_ :: _ :: _ :: _ :: _ :: _)
  dsimp only at hi hd ⊢
  rw [List.length_cons] at hi
  have hlt : i < stream.length := by omega
  have hxi : stream.getD i 0 = x := by
    have := congrArg (·[0]?) hd
    simp only [List.getElem?_drop, Nat.add_zero, List.getElem?_cons_zero] at this
    rw [List.getD_eq_getElem?_getD, this]; rfl
  have hcell : ss[0 + i]? = some (vu8 x) := by rw [(hs i hlt).1, hxi]
  have hd2 : stream.drop (i + 1) = rest := by
    have := congrArg (List.drop 1) hd
    simpa [List.drop_drop] using this
  refine JC.seq (JC.region ?_)
  refine JO.py (Py.assign ev_const) ?_
  refine JO.py (Py.assign ev_const) ?_
  refine JO.nil (JX.code (JC.seq (JC.seq (JC.region ?_))))
  refine JO.py (Py.move xe) ?_
  refine JO.py (Py.nil xe) ?_
  refine JO.py (Py.fld fld173_0 xe xoff) ?_
  refine JO.py (Py.load scal106 xe xpick xrow) ?_
  refine JO.call (Evs.cons xe Evs.nil) (bufLen_con G bf (some ⟨hb, 0, none⟩) 13 hc 13 (-1) (Nat.le_refl _) (by decide)) xpkE ?_
  rintro _
  show JO _ _ _ _ _ _ _ ((8, _) :: _) _ (_ :: _ :: _)
  first | refine JO.py (Py.dec (Py.gtr xe ev_const) (by omega)) ?_ | refine JO.py (Py.undec (Py.gtr xe ev_const) (by omega)) ?_ | refine JO.py (Py.gtr xe ev_const) ?_
  refine JO.nil (JX.code ?_)
  first | refine JC.condF xe ?_ | refine JC.condF ((xe).trans (vbool (decide_eq_false (by omega)))) ?_
  refine JC.region ?_
  refine JO.py (Py.move xe) ?_
  refine JO.py (Py.nil xe) ?_
  refine JO.py (Py.fld fld173_1 xe xoff) ?_
  refine JO.py (Py.load scal169 xe xpick xrow) ?_
  refine JO.invoke xe Evs.nil (hm) (rdByte_con G r sb 0 m sc i p ss 5 (0, 0) x (by omega) hcell hsm) xpkE ?_
  rintro _
  show JO _ _ _ _ _ _ _ ((23, _) :: _) _ (_ :: _ :: _ :: _)
  refine JO.py (Py.move xe) ?_
  refine JO.py (Py.extrI xe xix) ?_
  refine JO.py (Py.extrI xe xix) ?_
  refine JO.py (Py.assign xe) ?_
  refine JO.py (Py.assign xe) ?_
  refine JO.nil (JX.code (JC.seq (JC.seq (JC.region ?_))))
  refine JO.py (Py.move xe) ?_
  first | refine JO.py (Py.neqNil Tryz.underlying70 xe rfl) ?_ | refine JO.py (Py.neqHeld Tryz.underlying70 xe rfl) ?_
  refine JO.nil (JX.code ?_)
  first | refine JC.condF xe ?_ | refine JC.condF ((xe).trans (vbool (decide_eq_false (by omega)))) ?_
  refine JC.skip (JX.code (JC.seq (JC.region ?_)))
  refine JO.py (Py.move xe) ?_
  refine JO.py (Py.move xe) ?_
  refine JO.py (Py.assign xe) ?_
  refine JO.py (Py.assign xe) ?_
  refine JO.nil (JX.code (JC.ret ?_))
  refine JX.shut (f := fun g : {g : Nat × Int // g.1 + rest.length = m ∧ stream.drop g.1 = rest} => [cel mb 173 #[.pointer (some ⟨bf, 0, none⟩), .iface 88 (.agg #[.pointer (some ⟨r, 0, none⟩)]), .iface 210 (.pointer (some ⟨ch, 0, none⟩))], BufA bf (.slice (some ⟨hb, 0, none⟩) 13 hc) 13 (-1), BrA r (.slice (some ⟨sb, 0, none⟩) m sc) g.1.1 g.1.2, cel sb 5 ss]) ⟨(i + 1, -1), by dsimp only; omega, hd2⟩ xpicks ?_
  refine JX.as (A := Ex fun g : {g : Nat × Int // g.1 + rest.length = m ∧ stream.drop g.1 = rest} => [cel mb 173 #[.pointer (some ⟨bf, 0, none⟩), .iface 88 (.agg #[.pointer (some ⟨r, 0, none⟩)]), .iface 210 (.pointer (some ⟨ch, 0, none⟩))], BufA bf (.slice (some ⟨hb, 0, none⟩) 13 hc) 13 (-1), BrA r (.slice (some ⟨sb, 0, none⟩) m sc) g.1.1 g.1.2, cel sb 5 ss]) (A' := LzP.SrA ⟨mb, bf, hb, hc, hcur, lr, r, sb, m, sc, ss, ch, cs, hdr, stream⟩ rest) xpick (rfl) ?_
  refine JX.end2 (Or.inl rfl) (()) Tryz.results224 (tup2 ((xe).trans (by first | exact xval | (dsimp only; exact xval))) ((xe).trans (by first | exact xval | (dsimp only; exact xval)))) xpkE
def LzP.src (G : Gst) (X : LzP) (hX : X.Ok) : ByteSrc G := { t := 171, u := .pointer (some ⟨X.mb, 0, none⟩), f := 224, rcv := .pointer (some ⟨X.mb, 0, none⟩), A := X.SrA, m := mth171B _, con := X.byte G hX }
theorem chRead_con (G : Gst) (ch cs bf hb hc : Nat) (hcur ps : Array Value) (Z : Value) (hdr : List Nat) (pb : Nat) (lr : Int) (h : RdOk hcur 0 hdr) (hl : hdr.length = 13) (hs : 13 ≤ hc) (hps : ps.size = 13) (ea : Addr) (eT : TypeId) (ef : Nat × Nat) :
    Con Tryz.prog G 238 #[.pointer (some ⟨ch, 0, none⟩), .slice (some ⟨pb, 0, none⟩) 13 13] [cel ch 212 #[.slice (some ⟨cs, 0, none⟩) 2 2], cel cs 113 #[.iface 106 (.pointer (some ⟨bf, 0, none⟩)), Z], BufA bf (.slice (some ⟨hb, 0, none⟩) 13 hc) 0 lr, cel hb 5 hcur, cel pb 5 ps, EofA ea eT ef]
      (fun _ : Unit => .tuple #[.int .i64 (13 : Nat), .nilIface]) (fun _ => [BufA bf (.slice (some ⟨hb, 0, none⟩) 13 hc) 13 (-1), cel pb 5 (u8s hdr).toArray, EofA ea eT ef]) := by
  have hm := mth106R (.pointer (some ⟨bf, 0, none⟩))
  have hsp : splice ps 0 (piece hdr 0 13) = (u8s hdr).toArray := by
    have e : piece hdr 0 13 = u8s hdr := by rw [piece_eq (by omega), List.drop_zero, List.take_of_length_le (by omega)]
    unfold splice
    rw [e]
    have : (u8s hdr).length = 13 := by rw [u8s_len, hl]
    rw [this, List.drop_of_length_le (by simp [hps])]
    simp
  have hrd := bbRead_con G bf hb 13 hc 0 pb 0 13 13 lr hcur ps hdr 13 h hl (by decide) hs (by decide) (by decide) (by omega) (by decide)
  rw [hsp] at hrd
  refine Con.intro Tryz.func238 rfl (by kernel_rfl) Tryz.ntmps238 (Nat.le_of_ble_eq_true rfl) ?_
  intro F
  show JC _ _ _ _ _ _ [(0, _), (1, _)] _ [_, _, _, _, _, _, _]
  refine JC.seq (JC.region ?_)
  refine JO.py (Py.assign ev_const) ?_
  refine JO.py (Py.assign ev_const) ?_
  refine JO.nil (JX.code (JC.seq (JC.block ?_)))
  refine JC.unroll 0 ?_
  refine JC.seq (JC.seq (JC.region ?_))
  refine JO.py (Py.move xe) ?_
  refine JO.py (Py.nil xe) ?_
  refine JO.py (Py.fld fld212_0 xe xoff) ?_
  refine JO.py (Py.load scal209 xe xpick xrow) ?_
  refine JO.py (Py.lenS Tryz.underlying209 xe) ?_
  first | refine JO.py (Py.dec (Py.gtr xe ev_const) (by omega)) ?_ | refine JO.py (Py.undec (Py.gtr xe ev_const) (by omega)) ?_ | refine JO.py (Py.gtr xe ev_const) ?_
  refine JO.nil (JX.code ?_)
  first | refine JC.condT xe ?_ | refine JC.condT ((xe).trans (vbool (decide_eq_true (by omega)))) ?_
  refine JC.skip (JX.code (JC.block (JC.seq (JC.region ?_))))
  refine JO.py (Py.move xe) ?_
  refine JO.py (Py.nil xe) ?_
  refine JO.py (Py.fld fld212_0 xe xoff) ?_
  refine JO.py (Py.load scal209 xe xpick xrow) ?_
  refine JO.py (Py.idxS Tryz.underlying209 siz113 xe ev_const (by omega) xidx xmult) ?_
  refine JO.py (Py.load scal113 xe xpick xrow) ?_
  refine JO.py (Py.move xe) ?_
  refine JO.invoke xe (Evs.cons xe Evs.nil) (hm) hrd xpkE ?_
  rintro _
  show JO _ _ _ _ _ _ _ ((20, _) :: _) _ (_ :: _ :: _ :: _ :: _)
  refine JO.py (Py.move xe) ?_
  refine JO.py (Py.extrI xe xix) ?_
  refine JO.py (Py.extrI xe xix) ?_
  refine JO.py (Py.assign xe) ?_
  refine JO.py (Py.assign xe) ?_
  refine JO.nil (JX.code (JC.seq (JC.seq (JC.region ?_))))
  refine JO.py (Py.move xe) ?_
  refine JO.py (Py.load scal70 ev_glob xpick xrow) ?_
  refine JO.py (Py.eqlNH Tryz.underlying70 xe xe) ?_
  refine JO.nil (JX.code ?_)
  first | refine JC.condF xe ?_ | refine JC.condF ((xe).trans (vbool (decide_eq_false (by omega)))) ?_
  refine JC.skip (JX.code (JC.seq (JC.region ?_)))
  refine JO.py (Py.move xe) ?_
  first | refine JO.py (Py.dec (Py.gtr xe ev_const) (by omega)) ?_ | refine JO.py (Py.undec (Py.gtr xe ev_const) (by omega)) ?_ | refine JO.py (Py.gtr xe ev_const) ?_
  refine JO.py (Py.move xe) ?_
  first | (refine JO.go rfl (Lk.ev (v := .bool false) xlk rfl) ?_; (refine JO.py (Py.move xe) ?_)) | refine JO.skipS rfl (Lk.ev (v := .bool true) xlk rfl) ?_
  first | (refine JO.go rfl (Lk.ev (v := .bool false) xlk rfl) ?_; (refine JO.py (Py.load scal70 ev_glob xpick xrow) ?_)) | refine JO.skipS rfl (Lk.ev (v := .bool true) xlk rfl) ?_
  refine JO.skipS rfl (Lk.ev (v := .bool true) xlk rfl) ?_
  first | refine JO.py (Py.pickT xe ev_const) ?_ | refine JO.py (Py.pickF xe xe) ?_
  refine JO.nil (JX.code ?_)
  first | refine JC.condT xe ?_ | refine JC.condT ((xe).trans (vbool (decide_eq_true (by omega)))) ?_
  refine JC.seq (JC.seq (JC.region ?_))
  refine JO.py (Py.move xe) ?_
  refine JO.py (Py.load scal70 ev_glob xpick xrow) ?_
  refine JO.py (Py.eqlNH Tryz.underlying70 xe xe) ?_
  refine JO.py (Py.move xe) ?_
  first | (refine JO.go rfl (Lk.ev (v := .bool true) xlk rfl) ?_; (refine JO.py (Py.move xe) ?_)) | refine JO.skipS rfl (Lk.ev (v := .bool false) xlk rfl) ?_
  first | (refine JO.go rfl (Lk.ev (v := .bool true) xlk rfl) ?_; (refine JO.py (Py.nil xe) ?_)) | refine JO.skipS rfl (Lk.ev (v := .bool false) xlk rfl) ?_
  first | (refine JO.go rfl (Lk.ev (v := .bool true) xlk rfl) ?_; (refine JO.py (Py.fld fld212_0 xe xoff) ?_)) | refine JO.skipS rfl (Lk.ev (v := .bool false) xlk rfl) ?_
  first | (refine JO.go rfl (Lk.ev (v := .bool true) xlk rfl) ?_; (refine JO.py (Py.load scal209 xe xpick xrow) ?_)) | refine JO.skipS rfl (Lk.ev (v := .bool false) xlk rfl) ?_
  first | (refine JO.go rfl (Lk.ev (v := .bool true) xlk rfl) ?_; (refine JO.py (Py.lenS Tryz.underlying209 xe) ?_)) | refine JO.skipS rfl (Lk.ev (v := .bool false) xlk rfl) ?_
  first | (refine JO.go rfl (Lk.ev (v := .bool true) xlk rfl) ?_; (first | refine JO.py (Py.dec (Py.gtr xe ev_const) (by omega)) ?_ | refine JO.py (Py.undec (Py.gtr xe ev_const) (by omega)) ?_ | refine JO.py (Py.gtr xe ev_const) ?_)) | refine JO.skipS rfl (Lk.ev (v := .bool false) xlk rfl) ?_
  first | refine JO.py (Py.pickT xe xe) ?_ | refine JO.py (Py.pickF xe ev_const) ?_
  refine JO.nil (JX.code ?_)
  first | refine JC.condF xe ?_ | refine JC.condF ((xe).trans (vbool (decide_eq_false (by omega)))) ?_
  refine JC.skip (JX.code (JC.seq (JC.region ?_)))
  refine JO.py (Py.move xe) ?_
  refine JO.py (Py.move xe) ?_
  refine JO.py (Py.assign xe) ?_
  refine JO.py (Py.assign xe) ?_
  refine JO.nil (JX.code (JC.ret (JX.blockR (JX.ret (JX.blockR (JX.ret ?_))))))
  refine JX.end2 (Or.inl rfl) (()) Tryz.results238 (tup2 ((xe).trans (by first | exact xval | (dsimp only; exact xval))) ((xe).trans (by first | exact xval | (dsimp only; exact xval)))) xpkE
set_option maxRecDepth 100000 in
theorem LzP.head (G : Gst) (X : LzP) (hX : X.Ok) (ea : Addr) (eT : TypeId) (ef : Nat × Nat) (b : Nat) : Con Tryz.prog G 223 #[.pointer (some ⟨X.mb, 0, none⟩), .slice (some ⟨b, 0, none⟩) 13 13] [X.HdA ea eT ef, cel b 5 (Array.replicate 13 (.int .u8 0))]
    (fun _ : Unit => .tuple #[.int .i64 (13 : Nat), .nilIface]) (fun _ => [Two (X.SrA X.stream) (EofA ea eT ef), cel b 5 (u8s X.hdr).toArray]) := by
  obtain ⟨mb, bf, hb, hc, hcur, lr, r, sb, m, sc, ss, ch, cs, hdr, stream⟩ := X
  obtain ⟨h, hl, hsz, h13, hs, hsl, hsm⟩ := hX
  dsimp only at h hl h13 hs hsl hsm ⊢
  have hm := mth210R (.pointer (some ⟨ch, 0, none⟩))
  refine Con.intro Tryz.func223 rfl (by kernel_rfl) Tryz.ntmps223 (Nat.le_of_ble_eq_true rfl) ?_
  intro F
  show JC _ _ _ _ _ _ [(0, _), (1, _)] _ [_, _, _]
  refine JC.as (A := LzP.HdA ⟨mb, bf, hb, hc, hcur, lr, r, sb, m, sc, ss, ch, cs, hdr, stream⟩ ea eT ef) (A' := Ex fun _ : Unit => LzP.heads ⟨mb, bf, hb, hc, hcur, lr, r, sb, m, sc, ss, ch, cs, hdr, stream⟩ ea eT ef) xpick (rfl) ?_
  refine JC.open xpick ?_
  rintro _
  show JC _ _ _ _ _ _ _ _ (_ :: _ :: _ :: _ :: _ :: _ :: _ :: _ :: _ :: _ :: _)
  refine JC.seq (JC.region ?_)
  refine JO.py (Py.assign ev_const) ?_
  refine JO.py (Py.assign ev_const) ?_
  refine JO.nil (JX.code (JC.seq (JC.region ?_)))
  refine JO.py (Py.move xe) ?_
  refine JO.py (Py.nil xe) ?_
  refine JO.py (Py.fld fld173_2 xe xoff) ?_
  refine JO.py (Py.load scal113 xe xpick xrow) ?_
  refine JO.py (Py.move xe) ?_
  refine JO.invoke xe (Evs.cons xe Evs.nil) (hm) (chRead_con G ch cs bf hb hc hcur (Array.replicate 13 (.int .u8 0)) (.iface 88 (.agg #[.pointer (some ⟨r, 0, none⟩)])) hdr b lr h hl h13 (by simp) ea eT ef) xpkE ?_
  rintro _
  show JO _ _ _ _ _ _ _ ((14, _) :: _) _ (_ :: _ :: _ :: _ :: _)
  refine JO.py (Py.move xe) ?_
  refine JO.py (Py.extrI xe xix) ?_
  refine JO.py (Py.extrI xe xix) ?_
  refine JO.py (Py.assign xe) ?_
  refine JO.py (Py.assign xe) ?_
  refine JO.nil (JX.code (JC.seq (JC.seq (JC.region ?_))))
  refine JO.py (Py.move xe) ?_
  first | refine JO.py (Py.neqNil Tryz.underlying70 xe rfl) ?_ | refine JO.py (Py.neqHeld Tryz.underlying70 xe rfl) ?_
  refine JO.nil (JX.code ?_)
  first | refine JC.condF xe ?_ | refine JC.condF ((xe).trans (vbool (decide_eq_false (by omega)))) ?_
  refine JC.skip (JX.code (JC.seq (JC.region ?_)))
  refine JO.py (Py.move xe) ?_
  refine JO.py (Py.move xe) ?_
  refine JO.py (Py.assign xe) ?_
  refine JO.py (Py.assign xe) ?_
  refine JO.nil (JX.code (JC.ret ?_))
  refine JX.shut (f := fun g : {g : Nat × Int // g.1 + stream.length = m ∧ stream.drop g.1 = stream} => [cel mb 173 #[.pointer (some ⟨bf, 0, none⟩), .iface 88 (.agg #[.pointer (some ⟨r, 0, none⟩)]), .iface 210 (.pointer (some ⟨ch, 0, none⟩))], BufA bf (.slice (some ⟨hb, 0, none⟩) 13 hc) 13 (-1), BrA r (.slice (some ⟨sb, 0, none⟩) m sc) g.1.1 g.1.2, cel sb 5 ss]) ⟨(0, -1), by dsimp only; omega, List.drop_zero⟩ xpicks ?_
  refine JX.as (A := Ex fun g : {g : Nat × Int // g.1 + stream.length = m ∧ stream.drop g.1 = stream} => [cel mb 173 #[.pointer (some ⟨bf, 0, none⟩), .iface 88 (.agg #[.pointer (some ⟨r, 0, none⟩)]), .iface 210 (.pointer (some ⟨ch, 0, none⟩))], BufA bf (.slice (some ⟨hb, 0, none⟩) 13 hc) 13 (-1), BrA r (.slice (some ⟨sb, 0, none⟩) m sc) g.1.1 g.1.2, cel sb 5 ss]) (A' := LzP.SrA ⟨mb, bf, hb, hc, hcur, lr, r, sb, m, sc, ss, ch, cs, hdr, stream⟩ stream) xpick (rfl) ?_
  refine JX.shut (f := fun _ : Unit => [LzP.SrA ⟨mb, bf, hb, hc, hcur, lr, r, sb, m, sc, ss, ch, cs, hdr, stream⟩ stream, EofA ea eT ef]) () xpicks ?_
  refine JX.as (A := Ex fun _ : Unit => [LzP.SrA ⟨mb, bf, hb, hc, hcur, lr, r, sb, m, sc, ss, ch, cs, hdr, stream⟩ stream, EofA ea eT ef]) (A' := Two (LzP.SrA ⟨mb, bf, hb, hc, hcur, lr, r, sb, m, sc, ss, ch, cs, hdr, stream⟩ stream) (EofA ea eT ef)) xpick (rfl) ?_
  refine JX.end2 (Or.inl rfl) (()) Tryz.results223 (tup2 ((xe).trans (by first | exact xval | (dsimp only; exact xval))) ((xe).trans (by first | exact xval | (dsimp only; exact xval)))) xpkE
end Go.Proofs.YtfpepghmbeoanaaGreatDoor
end

section
open Go Go.RowKit
namespace Go.Proofs.YtfpepghmbeoanaaGreatDoor
open Lz
set_option linter.unusedSimpArgs false
set_option linter.unusedVariables false
theorem chain_con (G : Gst) (v : Value) (h : v.oneCell' = true) : Con Tryz.prog G 61 #[v] [] (fun ch : Nat => .iface 210 (.pointer (some ⟨ch, 0, none⟩))) (fun ch => [cel ch 212 #[v]]) := by
  refine Con.intro Tryz.func61 rfl (by kernel_rfl) Tryz.ntmps61 (Nat.le_of_ble_eq_true rfl) ?_
  intro F
  show JC _ _ _ _ _ _ [(0, _)] _ [_]
  refine JC.seq (JC.region ?_)
  refine JO.py (Py.assign ev_const) ?_
  refine JO.nil (JX.code (JC.seq (JC.region ?_)))
  refine JO.py (Py.move xe) ?_
  refine JO.py (Py.build bld212 (Pts.cons xe Pts.nil) xfl) ?_
  refine JO.boxA xe ?_; intro b5
  refine JO.py (Py.mki mki210 xe) ?_
  refine JO.py (Py.assign xe) ?_
  refine JO.nil (JX.code (JC.ret ?_))
  refine JX.end1 (Or.inl rfl) (b5) Tryz.results61 ((xe).trans (by first | exact xval | (dsimp only; exact xval))) xpkE
theorem multi_con (G : Gst) (bf r : Nat) : Con Tryz.prog G 52 #[.pointer (some ⟨bf, 0, none⟩), .iface 88 (.agg #[.pointer (some ⟨r, 0, none⟩)])] [] (fun x : Nat × Nat × Nat => .iface 171 (.pointer (some ⟨x.1, 0, none⟩)))
    (fun x => [cel x.1 173 #[.pointer (some ⟨bf, 0, none⟩), .iface 88 (.agg #[.pointer (some ⟨r, 0, none⟩)]), .iface 210 (.pointer (some ⟨x.2.1, 0, none⟩))], cel x.2.1 212 #[.slice (some ⟨x.2.2, 0, none⟩) 2 2], cel x.2.2 113 #[.iface 106 (.pointer (some ⟨bf, 0, none⟩)), .iface 88 (.agg #[.pointer (some ⟨r, 0, none⟩)])]]) := by
  refine Con.intro Tryz.func52 rfl (by kernel_rfl) Tryz.ntmps52 (Nat.le_of_ble_eq_true rfl) ?_
  intro F
  show JC _ _ _ _ _ _ [(0, _), (1, _)] _ [_]
  refine JC.seq (JC.region ?_)
  refine JO.py (Py.assign ev_const) ?_
  refine JO.nil (JX.code (JC.seq (JC.region ?_)))
  refine JO.py (Py.move xe) ?_
  refine JO.py (Py.mki mki106 xe) ?_
  refine JO.py (Py.move xe) ?_
  refine JO.bslice Tryz.underlying209 elm113 (Evs.cons xe (Evs.cons xe Evs.nil)) rfl rfl (by simp [Value.oneCell']) (by decide) ?_; intro b11
  refine JO.call (Evs.cons xe Evs.nil) (chain_con G (.slice (some ⟨b11, 0, none⟩) 2 2) rfl) xpkE ?_
  rintro ch
  show JO _ _ _ _ _ _ _ ((12, _) :: _) _ (_ :: _ :: _)
  refine JO.py (Py.assign xe) ?_
  refine JO.nil (JX.code (JC.seq (JC.seq (JC.region ?_))))
  refine JO.py (Py.move xe) ?_
  refine JO.py (Py.asI Tryz.underlying169 br88 xe) ?_
  refine JO.py (Py.move xe) ?_
  refine JO.py (Py.extrI xe xix) ?_
  refine JO.py (Py.extrI xe xix) ?_
  refine JO.py (Py.assign xe) ?_
  refine JO.py (Py.assign xe) ?_
  refine JO.nil (JX.code (JC.seq (JC.region ?_)))
  refine JO.py (Py.move xe) ?_
  refine JO.nil (JX.code ?_)
  first | refine JC.condT xe ?_ | refine JC.condT ((xe).trans (vbool (decide_eq_true (by omega)))) ?_
  refine JC.seq (JC.region ?_)
  refine JO.py (Py.move xe) ?_
  refine JO.py (Py.move xe) ?_
  refine JO.py (Py.move xe) ?_
  refine JO.py (Py.build bld173 (Pts.cons xe (Pts.cons xe (Pts.cons xe Pts.nil))) xfl) ?_
  refine JO.boxA xe ?_; intro b23
  refine JO.py (Py.mki mki171 xe) ?_
  refine JO.py (Py.assign xe) ?_
  refine JO.nil (JX.code (JC.ret (JX.ret ?_)))
  refine JX.end1 (Or.inl rfl) ((b23, ch, b11)) Tryz.results52 ((xe).trans (by first | exact xval | (dsimp only; exact xval))) xpkE
theorem leN8 {z : Nat} (h : z < 65536) : leN z 8 = [z % 256, z / 256, 0, 0, 0, 0, 0, 0] := by
  have e : leN z 8 = [z / 2 ^ (8 * 0) % 256, z / 2 ^ (8 * 1) % 256, z / 2 ^ (8 * 2) % 256, z / 2 ^ (8 * 3) % 256, z / 2 ^ (8 * 4) % 256, z / 2 ^ (8 * 5) % 256, z / 2 ^ (8 * 6) % 256, z / 2 ^ (8 * 7) % 256] := rfl
  rw [e]
  simp only [Nat.reduceMul, Nat.reducePow, Nat.div_one]
  congr 1
  congr 1
  · omega
  congr 1
  · omega
  congr 1
  · omega
  congr 1
  · omega
  congr 1
  · omega
  congr 1
  · omega
  congr 1
  omega
theorem leN4 : leN 65536 4 = [0, 0, 1, 0] := by decide
/-- What the bytes of a stream must be. -/
structure StreamOk (c : Cfg) (bs : List Nat) (l : List Sym) (x1 x2 x3 x4 : Nat) (rb : List Nat) : Prop where
  ok : c.Ok
  v : ValidAll bs LzS.start l
  r : (LzS.start.run l).i = bs.length
  pos : 0 < bs.length
  len : bs.length ≤ 3000
  by' : ∀ x ∈ bs, x < 256
  h1 : x1 < 256
  h2 : x2 < 256
  h3 : x3 < 256
  h4 : x4 < 256
  n : num [x1, x2, x3, x4] < 4294967295
  d : DecOK M0 4294967295 (num [x1, x2, x3, x4]) rb (symsEv c bs LzS.start l)
theorem new51_con (G : Gst) (S : ByteSrc G) (H E : Asn) (f : FuncId) (rcv : Value) (hm : Mth Tryz.prog S.t S.u "Read" f rcv) (hn : NilA Tryz.prog S.t S.u "Read") (hbr : (Tryz.prog.info? S.t).map (fun i => (lacking #[("ReadByte", 290)] i.methods).isEmpty) = some true)
    (c : Cfg) (bs : List Nat) (l : List Sym) (x1 x2 x3 x4 : Nat) (rb : List Nat) (hs : StreamOk c bs l x1 x2 x3 x4 rb) (z : Nat) (hz : bs.length = z)
    (hrd : ∀ b, Con Tryz.prog G f #[rcv, .slice (some ⟨b, 0, none⟩) 13 13] [H, cel b 5 (Array.replicate 13 (.int .u8 0))] (fun _ : Unit => .tuple #[.int .i64 (13 : Nat), .nilIface]) (fun _ => [Two (S.A (0 :: x1 :: x2 :: x3 :: x4 :: rb)) E, cel b 5 (u8s (hdrL c z)).toArray])) :
    Con Tryz.prog G 51 #[.iface S.t S.u] [H] (fun x : {x : Nat × DecP G // x.2.Ok ∧ x.2.pre = 0 ∧ x.2.bs = bs ∧ x.2.all = bs} => .tuple #[.pointer (some ⟨x.1.1, 0, none⟩), .nilIface])
      (fun x => [RdrC x.1.1 (.iface S.t S.u) c.lc c.lp c.pb 4096 z c.lc c.lp c.pb 65536 z (.pointer (some ⟨x.1.2.d, 0, none⟩)), DecSt x.1.2 true 0, E]) := by
  have h := newReader_con G S H E f rcv hm hn hbr c hs.ok bs l hs.v hs.r hs.pos z hz (by have := hs.len; omega) hs.by' x1 x2 x3 x4 rb hs.h1 hs.h2 hs.h3 hs.h4 hs.n hs.d hrd
  refine Con.intro Tryz.func51 rfl (by kernel_rfl) Tryz.ntmps51 (Nat.le_of_ble_eq_true rfl) ?_
  intro F
  show JC _ _ _ _ _ _ [(0, _)] _ [_, _]
  refine JC.seq (JC.region ?_)
  refine JO.py (Py.assign ev_const) ?_
  refine JO.py (Py.assign ev_const) ?_
  refine JO.nil (JX.code (JC.seq (JC.region ?_)))
  refine JO.py (Py.build bld166 Pts.nil xfl) ?_
  refine JO.py (Py.move xe) ?_
  refine JO.call (Evs.cons xe (Evs.cons xe Evs.nil)) h xpkE ?_
  rintro ⟨⟨rd, X⟩, hX⟩
  show JO _ _ _ _ _ _ _ ((6, _) :: _) _ (_ :: _ :: _ :: _ :: _)
  dsimp only at hX ⊢
  refine JO.py (Py.extrI xe xix) ?_
  refine JO.py (Py.extrI xe xix) ?_
  refine JO.py (Py.assign xe) ?_
  refine JO.py (Py.assign xe) ?_
  refine JO.nil (JX.code (JC.ret ?_))
  refine JX.end2 (Or.inl rfl) (⟨(rd, X), hX⟩) Tryz.results51 (tup2 ((xe).trans (by first | exact xval | (dsimp only; exact xval))) ((xe).trans (by first | exact xval | (dsimp only; exact xval)))) xpkE
set_option maxRecDepth 100000 in
set_option maxHeartbeats 4000000 in
theorem newLz_con (G : Gst) (pv sv : Value) (rb rc r : Nat) (rcur : Array Value) (hr0 : rcur[0]? = some (.iface 88 (.agg #[.pointer (some ⟨r, 0, none⟩)]))) (c : Cfg) (bs : List Nat) (l : List Sym) (x1 x2 x3 x4 : Nat) (xs : List Nat) (hs : StreamOk c bs l x1 x2 x3 x4 xs) (hx : ∀ x ∈ xs, x < 256) (hxl : xs.length ≤ 900000) (z : Nat) (hz : bs.length = z) (ea : Addr) (eT : TypeId) (ef : Nat × Nat) :
    Con Tryz.prog G 39 #[pv, .int .u64 (z : Int), .slice (some ⟨rb, 0, none⟩) 1 rc] [Row 5 pv (u8s ((c.lc + 9 * (c.lp + 5 * c.pb)) :: leN 65536 4)), cel rb 90 rcur, BrA r sv 0 (-1), Row 5 sv (u8s (0 :: x1 :: x2 :: x3 :: x4 :: xs)), EofA ea eT ef]
      (fun x : {x : Nat × Nat × Nat × DecP G // x.2.2.2.Ok ∧ x.2.2.2.pre = 0 ∧ x.2.2.2.bs = bs ∧ x.2.2.2.all = bs} => .tuple #[.iface 115 (.pointer (some ⟨x.1.1, 0, none⟩)), .nilIface])
      (fun x => [cel x.1.1 119 #[.iface 88 (.agg #[.pointer (some ⟨r, 0, none⟩)]), .iface 109 (.pointer (some ⟨x.1.2.1, 0, none⟩))], RdrC x.1.2.1 (.iface 171 (.pointer (some ⟨x.1.2.2.1, 0, none⟩))) c.lc c.lp c.pb 4096 z c.lc c.lp c.pb 65536 z (.pointer (some ⟨x.1.2.2.2.d, 0, none⟩)), DecSt x.1.2.2.2 true 0, EofA ea eT ef]) := by
  have hlen := hs.len
  have hpos := hs.pos
  have h1 := hs.ok.l
  have h2 := hs.ok.p
  obtain ⟨m, hm⟩ : ∃ m, (0 :: x1 :: x2 :: x3 :: x4 :: xs).length = m := ⟨_, rfl⟩
  have hml : m ≤ 1000000 := by rw [← hm]; simp; omega
  have hsl : (u8s (0 :: x1 :: x2 :: x3 :: x4 :: xs)).length = m := by rw [u8s_len, hm]
  have hsx : ∀ x ∈ (0 :: x1 :: x2 :: x3 :: x4 :: xs), x < 256 := by
    intro x hxm
    simp only [List.mem_cons] at hxm
    rcases hxm with rfl | rfl | rfl | rfl | rfl | h
    · decide
    · exact hs.h1
    · exact hs.h2
    · exact hs.h3
    · exact hs.h4
    · exact hx _ h
  have hhl : ((c.lc + 9 * (c.lp + 5 * c.pb)) :: leN 65536 4) ++ leN z 8 = hdrL c z := by rw [leN4, leN8 (by omega)]; rfl
  have hhx : ∀ x ∈ hdrL c z, x < 256 := by
    intro x hxm
    rw [← hhl] at hxm
    simp only [List.mem_append, List.mem_cons] at hxm
    rcases hxm with (rfl | h) | h
    · omega
    · exact leN_lt _ _ _ h
    · exact leN_lt _ _ _ h
  refine Con.intro Tryz.func39 rfl (by kernel_rfl) Tryz.ntmps39 (Nat.le_of_ble_eq_true rfl) ?_
  intro F
  show JC _ _ _ _ _ _ [(0, _), (1, _), (2, _)] _ [_, _, _, _, _, _]
  refine JC.rowV (e := 5) (v := pv) (xs := u8s ((c.lc + 9 * (c.lp + 5 * c.pb)) :: leN 65536 4)) xpick ?_
  rintro pa pc hpv hpc
  rw [u8s_len] at hpv
  rw [leN4] at hpv ⊢
  refine JC.seq (JC.region ?_)
  refine JO.py (Py.assign ev_const) ?_
  refine JO.py (Py.assign ev_const) ?_
  refine JO.nil (JX.code (JC.seq (JC.seq (JC.region ?_))))
  refine JO.py (Py.move xe) ?_
  refine JO.py (Py.lenS Tryz.underlying84 xe) ?_
  first | refine JO.py (Py.dec (Py.neq xe ev_const) (by omega)) ?_ | refine JO.py (Py.undec (Py.neq xe ev_const) (by omega)) ?_ | refine JO.py (Py.neq xe ev_const) ?_
  refine JO.nil (JX.code ?_)
  first | refine JC.condF xe ?_ | refine JC.condF ((xe).trans (vbool (decide_eq_false (by omega)))) ?_
  refine JC.skip (JX.code (JC.seq (JC.region ?_)))
  refine JO.py (Py.move xe) ?_
  refine JO.free (A := Row 5 (.slice none 0 0) (u8s [])) (.inl ⟨rfl, rfl⟩) ?_
  refine JO.app Tryz.underlying22 elm5 ev_const xe xpick (Src.row xpick u8s_one ⟨pa, _, pc, hpv, rfl⟩) (by simp [u8s]) (by decide) ?_
  intro v16 ho16
  rw [← u8s_append, List.nil_append]
  refine JO.call (Evs.cons xe Evs.nil) (newBuf2_con G v16 ho16) xpkE ?_
  rintro bf
  show JO _ _ _ _ _ _ _ ((17, _) :: _) _ (_ :: _ :: _)
  refine JO.py (Py.assign xe) ?_
  refine JO.nil (JX.code (JC.seq (JC.region ?_)))
  refine JO.py (Py.move xe) ?_
  refine JO.py (Py.move xe) ?_
  refine JO.shut (f := (fun v : Value × Int => [BufA bf v.1 0 v.2, Row 5 v.1 (u8s [c.lc + 9 * (c.lp + 5 * c.pb), 0, 0, 1, 0])])) ((v16, 0)) xpicks ?_
  refine JO.as (A := Ex fun v : Value × Int => [BufA bf v.1 0 v.2, Row 5 v.1 (u8s [c.lc + 9 * (c.lp + 5 * c.pb), 0, 0, 1, 0])]) (A' := BufR bf [c.lc + 9 * (c.lp + 5 * c.pb), 0, 0, 1, 0]) xpick (rfl) ?_
  refine JO.call (Evs.cons xe (Evs.cons xe Evs.nil)) (writeU64_con G bf [c.lc + 9 * (c.lp + 5 * c.pb), 0, 0, 1, 0] z (by omega) (by simp) (by simp)) xpkE ?_
  rintro _
  show JO _ _ _ _ _ _ _ ((20, _) :: _) _ (_ :: _ :: _)
  rw [show [c.lc + 9 * (c.lp + 5 * c.pb), 0, 0, 1, 0] ++ leN z 8 = hdrL c z by rw [← hhl, leN4]]
  refine JO.as (A := BufR bf (hdrL c z)) (A' := Ex fun v : Value × Int => [BufA bf v.1 0 v.2, Row 5 v.1 (u8s (hdrL c z))]) xpick (rfl) ?_
  refine JO.open xpick ?_
  rintro ⟨hv, lr⟩
  show JO _ _ _ _ _ _ _ _ _ (_ :: _ :: _ :: _)
  dsimp only
  refine JO.unrow (e := 5) (v := hv) (xs := u8s (hdrL c z)) xpick (by simp [u8s, hdrL]) ?_
  rintro hb hc hcur rfl hhr
  refine JO.unrow (e := 5) (v := sv) (xs := u8s (0 :: x1 :: x2 :: x3 :: x4 :: xs)) xpick (by simp [u8s]) ?_
  rintro sb sc ss rfl hsr
  rw [hsl]
  have hhle := hhr.le
  rw [u8s_len] at hhle
  refine JO.nil (JX.code (JC.seq (JC.region ?_)))
  refine JO.py (Py.move xe) ?_
  refine JO.py (Py.move xe) ?_
  refine JO.py (Py.idxS Tryz.underlying84 siz90 xe ev_const (by omega) xidx xmult) ?_
  refine JO.py (Py.load scal90 xe xpick xrow) ?_
  refine JO.call (Evs.cons xe (Evs.cons xe Evs.nil)) (multi_con G bf r) xpkE ?_
  rintro ⟨mb, ch, cs⟩
  show JO _ _ _ _ _ _ _ ((26, _) :: _) _ (_ :: _ :: _ :: _ :: _)
  dsimp only
  have hX : (⟨mb, bf, hb, hc, hcur, lr, r, sb, m, sc, ss, ch, cs, hdrL c z, 0 :: x1 :: x2 :: x3 :: x4 :: xs⟩ : LzP).Ok := ⟨hhr.rd hhx, rfl, hhr.size, hhle, hsr.rd hsx, hm, hml⟩
  refine JO.shut (f := (fun _ : Unit => LzP.heads ⟨mb, bf, hb, hc, hcur, lr, r, sb, m, sc, ss, ch, cs, hdrL c z, 0 :: x1 :: x2 :: x3 :: x4 :: xs⟩ ea eT ef)) (()) xpicks ?_
  refine JO.as (A := Ex fun _ : Unit => LzP.heads ⟨mb, bf, hb, hc, hcur, lr, r, sb, m, sc, ss, ch, cs, hdrL c z, 0 :: x1 :: x2 :: x3 :: x4 :: xs⟩ ea eT ef) (A' := LzP.HdA ⟨mb, bf, hb, hc, hcur, lr, r, sb, m, sc, ss, ch, cs, hdrL c z, 0 :: x1 :: x2 :: x3 :: x4 :: xs⟩ ea eT ef) xpick (rfl) ?_
  have hnew : Con Tryz.prog G 51 #[.iface 171 (.pointer (some ⟨mb, 0, none⟩))] [LzP.HdA ⟨mb, bf, hb, hc, hcur, lr, r, sb, m, sc, ss, ch, cs, hdrL c z, 0 :: x1 :: x2 :: x3 :: x4 :: xs⟩ ea eT ef] (fun x : {x : Nat × DecP G // x.2.Ok ∧ x.2.pre = 0 ∧ x.2.bs = bs ∧ x.2.all = bs} => .tuple #[.pointer (some ⟨x.1.1, 0, none⟩), .nilIface])
      (fun x => [RdrC x.1.1 (.iface 171 (.pointer (some ⟨mb, 0, none⟩))) c.lc c.lp c.pb 4096 z c.lc c.lp c.pb 65536 z (.pointer (some ⟨x.1.2.d, 0, none⟩)), DecSt x.1.2 true 0, EofA ea eT ef]) :=
    new51_con G (LzP.src G _ hX) _ (EofA ea eT ef) 223 (.pointer (some ⟨mb, 0, none⟩)) (mth171R _) (nil171 _) br171 c bs l x1 x2 x3 x4 xs hs z hz (LzP.head G _ hX ea eT ef)
  refine JO.call (Evs.cons xe Evs.nil) hnew xpkE ?_
  rintro ⟨⟨rd, X⟩, hXX⟩
  show JO _ _ _ _ _ _ _ ((27, _) :: _) _ (_ :: _ :: _ :: _ :: _)
  dsimp only at hXX ⊢
  refine JO.py (Py.move xe) ?_
  refine JO.py (Py.extrI xe xix) ?_
  refine JO.py (Py.extrI xe xix) ?_
  refine JO.py (Py.assign xe) ?_
  refine JO.py (Py.assign xe) ?_
  refine JO.nil (JX.code (JC.seq (JC.seq (JC.region ?_))))
  refine JO.py (Py.move xe) ?_
  first | refine JO.py (Py.neqNil Tryz.underlying70 xe rfl) ?_ | refine JO.py (Py.neqHeld Tryz.underlying70 xe rfl) ?_
  refine JO.nil (JX.code ?_)
  first | refine JC.condF xe ?_ | refine JC.condF ((xe).trans (vbool (decide_eq_false (by omega)))) ?_
  refine JC.skip (JX.code (JC.seq (JC.region ?_)))
  refine JO.py (Py.move xe) ?_
  refine JO.py (Py.idxS Tryz.underlying84 siz90 xe ev_const (by omega) xidx xmult) ?_
  refine JO.py (Py.load scal90 xe xpick xrow) ?_
  refine JO.py (Py.move xe) ?_
  refine JO.py (Py.mki mki109 xe) ?_
  refine JO.py (Py.build bld119 (Pts.cons xe (Pts.cons xe Pts.nil)) xfl) ?_
  refine JO.boxA xe ?_; intro b39
  refine JO.py (Py.mki mki115 xe) ?_
  refine JO.py (Py.assign xe) ?_
  refine JO.py (Py.assign ev_const) ?_
  refine JO.nil (JX.code (JC.ret ?_))
  refine JX.end2 (Or.inl rfl) (⟨(b39, rd, mb, X), hXX⟩) Tryz.results39 (tup2 ((xe).trans (by first | exact xval | (dsimp only; exact xval))) ((xe).trans (by first | exact xval | (dsimp only; exact xval)))) xpkE
end Go.Proofs.YtfpepghmbeoanaaGreatDoor
end

section
open Go Go.RowKit
namespace Go.Proofs.YtfpepghmbeoanaaGreatDoor
open Lz
set_option linter.unusedSimpArgs false
set_option linter.unusedVariables false
/-- A reader that gives these bytes, 512 asked at a time. -/
structure RdSrc (G : Gst) (ea : Addr) (eT : TypeId) (ef : Nat × Nat) where
  σ : Type
  t : TypeId
  u : Value
  f : FuncId
  out : List Nat
  pos : σ → Nat
  ms : σ → Nat
  A : σ → Asn
  s0 : σ
  p0 : pos s0 = 0
  le : ∀ s, pos s ≤ out.length
  m : Mth Tryz.prog t u "Read" f u
  con : ∀ (s : σ) (pb : Nat), Con Tryz.prog G f #[u, .slice (some ⟨pb, 0, none⟩) 512 512] [A s, cel pb 5 (Array.replicate 512 (.int .u8 0)), EofA ea eT ef]
    (fun x : {x : σ × Nat × Bool // pos x.1 = pos s + x.2.1 ∧ x.2.1 ≤ 512 ∧ (x.2.2 = true → pos x.1 = out.length) ∧ (x.2.2 = false → ms x.1 < ms s)} => .tuple #[.int .i64 (x.1.2.1 : Int), if x.1.2.2 then eofV ea else .nilIface])
    (fun x => [A x.1.1, cel pb 5 (splice (Array.replicate 512 (.int .u8 0)) 0 (piece out (pos s) x.1.2.1)), EofA ea eT ef])
theorem str_lit {l : List Nat} {m : Array UInt8} {c : Bool} (h : (l.map UInt8.ofNat == m.toList) = c) : ((strB l).toList == (ByteArray.mk m).toList) = c := by
  rw [ByteArray.toList_eq, ByteArray.toList_eq]
  exact h
theorem zeros_piece {m : Nat} {out : List Nat} {p n : Nat} (hn : n ≤ m) (h : p + n ≤ out.length) : ((splice (Array.replicate m (Value.int .u8 0)) 0 (piece out p n)).extract 0 (0 + n)).toList = u8s ((out.drop p).take n) := by
  rw [← piece_eq h]
  unfold splice
  have hl := piece_len out p n
  simp [List.extract_eq_take_drop, hl]
theorem take_grow {out : List Nat} {p n : Nat} : out.take p ++ (out.drop p).take n = out.take (p + n) := by
  rw [List.take_add]
set_option maxRecDepth 100000 in
theorem decomp_con (G : Gst) (b : Nat) (xs : List Nat) (m : Nat) (hm : xs.length = m) (hx : ∀ x ∈ xs, x < 256) (f : FuncId)
    (h : (xs.map UInt8.ofNat = [3, 1, 1] ∧ f = 39) ∨ (xs.map UInt8.ofNat = [33] ∧ f = 46) ∨ (xs.map UInt8.ofNat = [3, 3, 1, 3] ∧ f = 40) ∨ (xs.map UInt8.ofNat = [3, 3, 2, 5] ∧ f = 42) ∨ (xs.map UInt8.ofNat = [3, 3, 5, 1] ∧ f = 43) ∨ (xs.map UInt8.ofNat = [3, 3, 8, 5] ∧ f = 44)) :
    Con Tryz.prog G 34 #[.slice (some ⟨b, 0, none⟩) m m] [cel b 5 (u8s xs).toArray] (fun _ : Unit => .func (.func f) #[] #[]) (fun _ => []) := by
  have hr : ∀ j v, (u8s xs)[j]? = some v → (u8s xs).toArray[0 + j]? = some v := fun j v h => by simpa using h
  refine Con.intro Tryz.func34 rfl (by kernel_rfl) Tryz.ntmps34 (Nat.le_of_ble_eq_true rfl) ?_
  intro F
  show JC _ _ _ _ _ _ [(0, _)] _ [_, _]
  refine JC.seq (JC.region ?_)
  refine JO.py (Py.assign ev_const) ?_
  refine JO.nil (JX.code (JC.seq (JC.seq (JC.region ?_))))
  refine JO.py (Py.move xe) ?_
  refine JO.py (Py.str Tryz.underlying22 Tryz.underlying5 Tryz.underlying9 xe hm hx (Reads.cel xpick hr)) ?_
  refine JO.nil (JX.code (JC.block (JC.seq (JC.region ?_))))
  refine JO.py (Py.streq (c := false) xe ev_const (str_lit (by rcases h with ⟨h, -⟩ | ⟨h, -⟩ | ⟨h, -⟩ | ⟨h, -⟩ | ⟨h, -⟩ | ⟨h, -⟩ <;> rw [h] <;> rfl))) ?_
  refine JO.py (Py.assign xe) ?_
  refine JO.nil (JX.code ?_)
  first | refine JC.condF xe ?_ | refine JC.condF ((xe).trans (vbool (decide_eq_false (by omega)))) ?_
  refine JC.seq (JC.region ?_)
  refine JO.py (Py.streq (c := false) xe ev_const (str_lit (by rcases h with ⟨h, -⟩ | ⟨h, -⟩ | ⟨h, -⟩ | ⟨h, -⟩ | ⟨h, -⟩ | ⟨h, -⟩ <;> rw [h] <;> rfl))) ?_
  refine JO.py (Py.assign xe) ?_
  refine JO.nil (JX.code ?_)
  first | refine JC.condF xe ?_ | refine JC.condF ((xe).trans (vbool (decide_eq_false (by omega)))) ?_
  refine JC.seq (JC.region ?_)
  rcases h with ⟨h, rfl⟩ | h
  · skip
    refine JO.py (Py.streq (c := true) xe ev_const (str_lit (by rw [h]; rfl))) ?_
    refine JO.py (Py.assign xe) ?_
    refine JO.nil (JX.code ?_)
    first | refine JC.condT xe ?_ | refine JC.condT ((xe).trans (vbool (decide_eq_true (by omega)))) ?_
    refine JC.seq (JC.region ?_)
    refine JO.py (Py.assign ev_func) ?_
    refine JO.nil (JX.code (JC.ret (JX.blockR (JX.ret ?_))))
    refine JX.end1 (Or.inl rfl) (()) Tryz.results34 ((xe).trans (by first | exact xval | (dsimp only; exact xval))) xpkE
  refine JO.py (Py.streq (c := false) xe ev_const (str_lit (by rcases h with ⟨h, -⟩ | ⟨h, -⟩ | ⟨h, -⟩ | ⟨h, -⟩ | ⟨h, -⟩ <;> rw [h] <;> rfl))) ?_
  refine JO.py (Py.assign xe) ?_
  refine JO.nil (JX.code ?_)
  first | refine JC.condF xe ?_ | refine JC.condF ((xe).trans (vbool (decide_eq_false (by omega)))) ?_
  refine JC.seq (JC.region ?_)
  rcases h with h | h
  · skip
    obtain ⟨h, rfl⟩ := h
    refine JO.py (Py.streq (c := false) xe ev_const (str_lit (by rw [h]; rfl))) ?_
    refine JO.py (Py.assign xe) ?_
    refine JO.nil (JX.code ?_)
    first | refine JC.condF xe ?_ | refine JC.condF ((xe).trans (vbool (decide_eq_false (by omega)))) ?_
    refine JC.seq (JC.region ?_)
    refine JO.py (Py.streq (c := false) xe ev_const (str_lit (by rw [h]; rfl))) ?_
    refine JO.py (Py.assign xe) ?_
    refine JO.nil (JX.code ?_)
    first | refine JC.condF xe ?_ | refine JC.condF ((xe).trans (vbool (decide_eq_false (by omega)))) ?_
    refine JC.seq (JC.region ?_)
    refine JO.py (Py.streq (c := false) xe ev_const (str_lit (by rw [h]; rfl))) ?_
    refine JO.py (Py.assign xe) ?_
    refine JO.nil (JX.code ?_)
    first | refine JC.condF xe ?_ | refine JC.condF ((xe).trans (vbool (decide_eq_false (by omega)))) ?_
    refine JC.seq (JC.region ?_)
    refine JO.py (Py.streq (c := false) xe ev_const (str_lit (by rw [h]; rfl))) ?_
    refine JO.py (Py.assign xe) ?_
    refine JO.nil (JX.code ?_)
    first | refine JC.condF xe ?_ | refine JC.condF ((xe).trans (vbool (decide_eq_false (by omega)))) ?_
    refine JC.seq (JC.region ?_)
    refine JO.py (Py.streq (c := false) xe ev_const (str_lit (by rw [h]; rfl))) ?_
    refine JO.py (Py.assign xe) ?_
    refine JO.nil (JX.code ?_)
    first | refine JC.condF xe ?_ | refine JC.condF ((xe).trans (vbool (decide_eq_false (by omega)))) ?_
    refine JC.seq (JC.region ?_)
    refine JO.py (Py.streq (c := false) xe ev_const (str_lit (by rw [h]; rfl))) ?_
    refine JO.py (Py.assign xe) ?_
    refine JO.nil (JX.code ?_)
    first | refine JC.condF xe ?_ | refine JC.condF ((xe).trans (vbool (decide_eq_false (by omega)))) ?_
    refine JC.seq (JC.region ?_)
    refine JO.py (Py.streq (c := true) xe ev_const (str_lit (by rw [h]; rfl))) ?_
    refine JO.py (Py.assign xe) ?_
    refine JO.nil (JX.code ?_)
    first | refine JC.condT xe ?_ | refine JC.condT ((xe).trans (vbool (decide_eq_true (by omega)))) ?_
    refine JC.seq (JC.region ?_)
    refine JO.py (Py.assign ev_func) ?_
    refine JO.nil (JX.code (JC.ret (JX.blockR (JX.ret ?_))))
    refine JX.end1 (Or.inl rfl) (()) Tryz.results34 ((xe).trans (by first | exact xval | (dsimp only; exact xval))) xpkE
  rcases h with ⟨h, rfl⟩ | h
  · skip
    refine JO.py (Py.streq (c := true) xe ev_const (str_lit (by rw [h]; rfl))) ?_
    refine JO.py (Py.assign xe) ?_
    refine JO.nil (JX.code ?_)
    first | refine JC.condT xe ?_ | refine JC.condT ((xe).trans (vbool (decide_eq_true (by omega)))) ?_
    refine JC.seq (JC.region ?_)
    refine JO.py (Py.assign ev_func) ?_
    refine JO.nil (JX.code (JC.ret (JX.blockR (JX.ret ?_))))
    refine JX.end1 (Or.inl rfl) (()) Tryz.results34 ((xe).trans (by first | exact xval | (dsimp only; exact xval))) xpkE
  refine JO.py (Py.streq (c := false) xe ev_const (str_lit (by rcases h with ⟨h, -⟩ | ⟨h, -⟩ | ⟨h, -⟩ <;> rw [h] <;> rfl))) ?_
  refine JO.py (Py.assign xe) ?_
  refine JO.nil (JX.code ?_)
  first | refine JC.condF xe ?_ | refine JC.condF ((xe).trans (vbool (decide_eq_false (by omega)))) ?_
  refine JC.seq (JC.region ?_)
  refine JO.py (Py.streq (c := false) xe ev_const (str_lit (by rcases h with ⟨h, -⟩ | ⟨h, -⟩ | ⟨h, -⟩ <;> rw [h] <;> rfl))) ?_
  refine JO.py (Py.assign xe) ?_
  refine JO.nil (JX.code ?_)
  first | refine JC.condF xe ?_ | refine JC.condF ((xe).trans (vbool (decide_eq_false (by omega)))) ?_
  refine JC.seq (JC.region ?_)
  rcases h with ⟨h, rfl⟩ | h
  · skip
    refine JO.py (Py.streq (c := true) xe ev_const (str_lit (by rw [h]; rfl))) ?_
    refine JO.py (Py.assign xe) ?_
    refine JO.nil (JX.code ?_)
    first | refine JC.condT xe ?_ | refine JC.condT ((xe).trans (vbool (decide_eq_true (by omega)))) ?_
    refine JC.seq (JC.region ?_)
    refine JO.py (Py.assign ev_func) ?_
    refine JO.nil (JX.code (JC.ret (JX.blockR (JX.ret ?_))))
    refine JX.end1 (Or.inl rfl) (()) Tryz.results34 ((xe).trans (by first | exact xval | (dsimp only; exact xval))) xpkE
  refine JO.py (Py.streq (c := false) xe ev_const (str_lit (by rcases h with ⟨h, -⟩ | ⟨h, -⟩ <;> rw [h] <;> rfl))) ?_
  refine JO.py (Py.assign xe) ?_
  refine JO.nil (JX.code ?_)
  first | refine JC.condF xe ?_ | refine JC.condF ((xe).trans (vbool (decide_eq_false (by omega)))) ?_
  refine JC.seq (JC.region ?_)
  rcases h with ⟨h, rfl⟩ | ⟨h, rfl⟩
  · skip
    refine JO.py (Py.streq (c := true) xe ev_const (str_lit (by rw [h]; rfl))) ?_
    refine JO.py (Py.assign xe) ?_
    refine JO.nil (JX.code ?_)
    first | refine JC.condT xe ?_ | refine JC.condT ((xe).trans (vbool (decide_eq_true (by omega)))) ?_
    refine JC.seq (JC.region ?_)
    refine JO.py (Py.assign ev_func) ?_
    refine JO.nil (JX.code (JC.ret (JX.blockR (JX.ret ?_))))
    refine JX.end1 (Or.inl rfl) (()) Tryz.results34 ((xe).trans (by first | exact xval | (dsimp only; exact xval))) xpkE
  · skip
    refine JO.py (Py.streq (c := false) xe ev_const (str_lit (by rw [h]; rfl))) ?_
    refine JO.py (Py.assign xe) ?_
    refine JO.nil (JX.code ?_)
    first | refine JC.condF xe ?_ | refine JC.condF ((xe).trans (vbool (decide_eq_false (by omega)))) ?_
    refine JC.seq (JC.region ?_)
    refine JO.py (Py.streq (c := true) xe ev_const (str_lit (by rw [h]; rfl))) ?_
    refine JO.py (Py.assign xe) ?_
    refine JO.nil (JX.code ?_)
    first | refine JC.condT xe ?_ | refine JC.condT ((xe).trans (vbool (decide_eq_true (by omega)))) ?_
    refine JC.seq (JC.region ?_)
    refine JO.py (Py.assign ev_func) ?_
    refine JO.nil (JX.code (JC.ret (JX.blockR (JX.ret ?_))))
    refine JX.end1 (Or.inl rfl) (()) Tryz.results34 ((xe).trans (by first | exact xval | (dsimp only; exact xval))) xpkE
set_option maxRecDepth 100000 in
set_option maxHeartbeats 4000000 in
theorem zz_con (G : Gst) (ea : Addr) (eT : TypeId) (ef : Nat × Nat) (ib : Nat) (id : List Nat) (im : Nat) (him : id.length = im) (hid : ∀ x ∈ id, x < 256) (f : FuncId)
    (h : (id.map UInt8.ofNat = [3, 1, 1] ∧ f = 39) ∨ (id.map UInt8.ofNat = [33] ∧ f = 46) ∨ (id.map UInt8.ofNat = [3, 3, 1, 3] ∧ f = 40) ∨ (id.map UInt8.ofNat = [3, 3, 2, 5] ∧ f = 42) ∨ (id.map UInt8.ofNat = [3, 3, 5, 1] ∧ f = 43) ∨ (id.map UInt8.ofNat = [3, 3, 8, 5] ∧ f = 44))
    (pv sv : Value) (hsv : sv.oneCell' = true) (z : Nat) (sl : Nat) (st : List Nat) (A : Asn) {ι : Type} (S : ι → RdSrc G ea eT ef) (out : List Nat) (hout : ∀ i, (S i).out = out) (holen : out.length ≤ 60000)
    (hnew : ∀ rb rc r rcur, rcur[0]? = some (.iface 88 (.agg #[.pointer (some ⟨r, 0, none⟩)])) → Con Tryz.prog G f #[pv, .int .u64 (z : Int), .slice (some ⟨rb, 0, none⟩) 1 rc] [A, cel rb 90 rcur, BrA r sv 0 (-1), Row 5 sv (u8s st), EofA ea eT ef]
      (fun i : ι => .tuple #[.iface (S i).t (S i).u, .nilIface]) (fun i => [(S i).A (S i).s0, EofA ea eT ef])) :
    Con Tryz.prog G 29 #[.slice (some ⟨ib, 0, none⟩) im im, pv, .int .u64 (z : Int), .slice (some ⟨sl, 0, none⟩) 1 1, .int .i64 65536] [cel ib 5 (u8s id).toArray, A, cel sl 22 #[sv], Row 5 sv (u8s st), EofA ea eT ef]
      (fun v : Value => .tuple #[v, .nilIface]) (fun v => [Row 5 v (u8s out), EofA ea eT ef]) := by
  refine Con.intro Tryz.func29 rfl (by kernel_rfl) Tryz.ntmps29 (Nat.le_of_ble_eq_true rfl) ?_
  intro F
  show JC _ _ _ _ _ _ [(0, _), (1, _), (2, _), (3, _), (4, _)] _ [_, _, _, _, _, _]
  refine JC.seq (JC.region ?_)
  refine JO.py (Py.assign ev_const) ?_
  refine JO.py (Py.assign ev_const) ?_
  refine JO.nil (JX.code (JC.seq (JC.region ?_)))
  refine JO.py (Py.move xe) ?_
  refine JO.call (Evs.cons xe Evs.nil) (decomp_con G ib id im him hid f h) xpkE ?_
  rintro _
  show JO _ _ _ _ _ _ _ ((23, _) :: _) _ (_ :: _)
  refine JO.py (Py.assign xe) ?_
  refine JO.nil (JX.code (JC.seq (JC.seq (JC.region ?_))))
  refine JO.py (Py.move xe) ?_
  refine JO.py (Py.eqlFN Tryz.underlying82 xe) ?_
  refine JO.nil (JX.code ?_)
  first | refine JC.condF xe ?_ | refine JC.condF ((xe).trans (vbool (decide_eq_false (by omega)))) ?_
  refine JC.skip (JX.code (JC.seq (JC.region ?_)))
  refine JO.py (Py.assign ev_const) ?_
  refine JO.nil (JX.code (JC.seq (JC.seq (JC.region ?_))))
  refine JO.py (Py.move xe) ?_
  refine JO.py (Py.lenS Tryz.underlying68 xe) ?_
  refine JO.py (Py.move ev_const) ?_
  refine JO.nil (JX.code (JC.block ?_))
  refine JC.unroll 1 ?_
  refine JC.seq (JC.region ?_)
  first | refine JO.py (Py.dec (Py.lss xe xe) (by omega)) ?_ | refine JO.py (Py.undec (Py.lss xe xe) (by omega)) ?_ | refine JO.py (Py.lss xe xe) ?_
  refine JO.nil (JX.code (JC.seq ?_))
  first | refine JC.condT xe ?_ | refine JC.condT ((xe).trans (vbool (decide_eq_true (by omega)))) ?_
  refine JC.skip (JX.code (JC.seq (JC.block (JC.seq (JC.region ?_)))))
  refine JO.py (Py.idxS Tryz.underlying68 siz22 xe xe (by omega) xidx xmult) ?_
  refine JO.py (Py.load scal22 xe xpick xrow) ?_
  refine JO.py (Py.assign xe) ?_
  refine JO.nil (JX.code (JC.region ?_))
  refine JO.py (Py.move xe) ?_
  refine JO.py (Py.move xe) ?_
  refine JO.call (Evs.cons xe Evs.nil) (newRd_con G sv hsv) xpkE ?_
  rintro r
  show JO _ _ _ _ _ _ _ ((35, _) :: _) _ (_ :: _ :: _)
  refine JO.py (Py.build bld88 (Pts.cons xe Pts.nil) xfl) ?_
  refine JO.py (Py.mki mki88 xe) ?_
  refine JO.bslice Tryz.underlying84 elm90 (Evs.cons xe Evs.nil) rfl rfl (by simp [Value.oneCell']) (by decide) ?_; intro b38
  refine JO.free (A := Row 90 (.slice none 0 0) []) (.inl ⟨rfl, rfl⟩) ?_
  refine JO.app Tryz.underlying84 elm90 xe xe xpick (Src.lit rfl xpick (by rfl) (by simp [Value.oneCell'])) (by decide) (by decide) ?_
  intro v39 ho39
  rw [List.nil_append]
  refine JO.py (Py.assign xe) ?_
  refine JO.nil (JX.blockN (JX.code (JC.region ?_)))
  refine JO.py (Py.add xe ev_const (w_i64 (by omega))) ?_
  refine JO.py (Py.move xe) ?_
  refine JO.nil (JX.again (JC.seq (JC.region ?_)))
  first | refine JO.py (Py.dec (Py.lss xe xe) (by omega)) ?_ | refine JO.py (Py.undec (Py.lss xe xe) (by omega)) ?_ | refine JO.py (Py.lss xe xe) ?_
  refine JO.nil (JX.code (JC.seq ?_))
  first | refine JC.condF xe ?_ | refine JC.condF ((xe).trans (vbool (decide_eq_false (by omega)))) ?_
  refine JC.exit (JX.exit (JX.exit (JX.blockE (JX.code (JC.seq (JC.region ?_))))))
  refine JO.py (Py.move xe) ?_
  refine JO.py (Py.move xe) ?_
  refine JO.py (Py.move xe) ?_
  refine JO.py (Py.move xe) ?_
  refine JO.unrow (e := 90) (v := v39) (xs := [.iface 88 (.agg #[.pointer (some ⟨r, 0, none⟩)])]) xpick (by simp) ?_
  rintro rb rc rcur rfl hrr
  rw [List.length_singleton]
  have hr0 : rcur[0]? = some (.iface 88 (.agg #[.pointer (some ⟨r, 0, none⟩)])) := hrr.get rfl
  refine JO.callV xe (Evs.cons xe (Evs.cons xe (Evs.cons xe Evs.nil))) (hnew rb rc r rcur hr0) xpkE ?_
  rintro i
  show JO _ _ _ _ _ _ _ ((46, _) :: _) _ (_ :: _ :: _ :: _)
  have hRo := hout i
  generalize S i = R at hRo ⊢
  subst hRo
  refine JO.py (Py.move xe) ?_
  refine JO.py (Py.extrI xe xix) ?_
  refine JO.py (Py.extrI xe xix) ?_
  refine JO.py (Py.assign xe) ?_
  refine JO.py (Py.assign xe) ?_
  refine JO.nil (JX.code (JC.seq (JC.seq (JC.region ?_))))
  refine JO.py (Py.move xe) ?_
  first | refine JO.py (Py.neqNil Tryz.underlying70 xe rfl) ?_ | refine JO.py (Py.neqHeld Tryz.underlying70 xe rfl) ?_
  refine JO.nil (JX.code ?_)
  first | refine JC.condF xe ?_ | refine JC.condF ((xe).trans (vbool (decide_eq_false (by omega)))) ?_
  refine JC.skip (JX.code (JC.seq (JC.region ?_)))
  refine JO.py (Py.assign ev_const) ?_
  refine JO.nil (JX.code (JC.seq (JC.block ?_)))
  refine JC.free (A := Row 5 (.slice none 0 0) (u8s [])) (.inl ⟨rfl, rfl⟩) ?_
  refine JC.loop (ι := R.σ × Value) (fun _ => True) (fun x => [(4, .int .i64 65536), (16, .iface R.t R.u), (18, x.2)]) (fun x => [R.A x.1, Row 5 x.2 (u8s (R.out.take (R.pos x.1))), EofA ea eT ef, F]) (fun x => R.ms x.1) (R.s0, .slice none 0 0) trivial xag (by dsimp only; rw [R.p0, List.take_zero]; exact xpkE) ?_
  rintro ⟨s, v⟩ base' -
  dsimp only
  have hle := R.le s
  obtain ⟨p, hp⟩ : ∃ p, R.pos s = p := ⟨_, rfl⟩
  have hcon := R.con s
  rw [hp] at hle hcon ⊢
  refine JC.rowV (e := 5) (v := v) (xs := u8s (R.out.take p)) xpick ?_
  rintro a c rfl hc
  have hl2 : (u8s (R.out.take p)).length = p := by rw [u8s_len, List.length_take]; omega
  rw [hl2]
  refine JC.seq (JC.seq (JC.region ?_))
  refine JO.py (Py.move xe) ?_
  refine JO.py (Py.lenS Tryz.underlying22 xe) ?_
  refine JO.py (Py.move xe) ?_
  first | refine JO.py (Py.dec (Py.lss xe xe) (by omega)) ?_ | refine JO.py (Py.undec (Py.lss xe xe) (by omega)) ?_ | refine JO.py (Py.lss xe xe) ?_
  refine JO.nil (JX.code ?_)
  first | refine JC.condT xe ?_ | refine JC.condT ((xe).trans (vbool (decide_eq_true (by omega)))) ?_
  refine JC.skip (JX.code (JC.block (JC.seq (JC.region ?_))))
  refine JO.py (Py.move xe) ?_
  refine JO.py (Py.move xe) ?_
  refine JO.py (Py.lenS Tryz.underlying22 xe) ?_
  refine JO.py (Py.sub xe xe (w_i64 (by omega))) ?_
  first | refine JO.py (Py.minT ev_const xe (by omega)) ?_ | refine JO.py (Py.minF ev_const xe (by omega)) ?_ | refine JO.py (Py.min2 ev_const xe) ?_
  refine JO.mkslice (m := 512) (c := 512) Tryz.underlying22 elm5 xe xe (by omega) (by omega) (by omega) (by omega) (by omega) ?_
  intro b61
  refine JO.py (Py.assign xe) ?_
  refine JO.nil (JX.code (JC.seq (JC.region ?_)))
  refine JO.py (Py.move xe) ?_
  refine JO.py (Py.move xe) ?_
  refine JO.invoke xe (Evs.cons xe Evs.nil) (R.m) (hcon b61) xpkE ?_
  rintro ⟨⟨s', n, e⟩, h1, h2, h3, h4⟩
  show JO _ _ _ _ _ _ _ ((65, _) :: _) _ (_ :: _ :: _ :: _ :: _)
  dsimp only at h1 h2 h3 h4 ⊢
  have hle' := R.le s'
  have hsz : 0 + n ≤ (splice (Array.replicate 512 (Value.int .u8 0)) 0 (piece R.out p n)).size := by rw [splice_size (by rw [piece_len]; simp; omega)]; simp; omega
  cases e
  · skip
    have h5 := h4 rfl
    rw [if_neg Bool.false_ne_true]
    refine JO.py (Py.move xe) ?_
    refine JO.py (Py.extrI xe xix) ?_
    refine JO.py (Py.extrI xe xix) ?_
    refine JO.py (Py.assign xe) ?_
    refine JO.py (Py.assign xe) ?_
    refine JO.nil (JX.code (JC.seq (JC.region ?_)))
    refine JO.py (Py.move xe) ?_
    refine JO.py (Py.move xe) ?_
    refine JO.py (Py.move xe) ?_
    refine JO.py (Py.slc (l := 0) (h := n) (p := 0) (q := n) (c := 512) Tryz.underlying22 siz5 xe Bd.none (Bd.some xe (by omega)) (by omega) (by omega) (by omega) (by omega) (by omega) (by omega)) ?_
    refine JO.app Tryz.underlying22 elm5 xe xe xpick (Src.cel rfl xpick hsz (zeros_piece h2 (by omega)) u8s_one) (by rw [hl2]; omega) (by decide) ?_
    intro v72 ho72
    have htk : R.out.take (p + n) = R.out.take (R.pos s') := by rw [h1]
    rw [← u8s_append, take_grow, htk]
    refine JO.py (Py.assign xe) ?_
    refine JO.nil (JX.code (JC.seq (JC.region ?_)))
    refine JO.py (Py.move xe) ?_
    first | refine JO.py (Py.neqNil Tryz.underlying70 xe rfl) ?_ | refine JO.py (Py.neqHeld Tryz.underlying70 xe rfl) ?_
    refine JO.nil (JX.code ?_)
    first | refine JC.condF xe ?_ | refine JC.condF ((xe).trans (vbool (decide_eq_false (by omega)))) ?_
    refine JC.skip (JX.blockN ?_)
    refine JX.loop (s', v72) trivial h5 xag xpkE
  · skip
    have h5 := h3 rfl
    rw [if_pos rfl]
    refine JO.py (Py.move xe) ?_
    refine JO.py (Py.extrI xe xix) ?_
    refine JO.py (Py.extrI xe xix) ?_
    refine JO.py (Py.assign xe) ?_
    refine JO.py (Py.assign xe) ?_
    refine JO.nil (JX.code (JC.seq (JC.region ?_)))
    refine JO.py (Py.move xe) ?_
    refine JO.py (Py.move xe) ?_
    refine JO.py (Py.move xe) ?_
    refine JO.py (Py.slc (l := 0) (h := n) (p := 0) (q := n) (c := 512) Tryz.underlying22 siz5 xe Bd.none (Bd.some xe (by omega)) (by omega) (by omega) (by omega) (by omega) (by omega) (by omega)) ?_
    refine JO.app Tryz.underlying22 elm5 xe xe xpick (Src.cel rfl xpick hsz (zeros_piece h2 (by omega)) u8s_one) (by rw [hl2]; omega) (by decide) ?_
    intro v72 ho72
    have htk : R.out.take (p + n) = R.out := by rw [← h1, h5, List.take_length]
    rw [← u8s_append, take_grow, htk]
    refine JO.py (Py.assign xe) ?_
    refine JO.nil (JX.code (JC.seq (JC.region ?_)))
    refine JO.py (Py.move xe) ?_
    first | refine JO.py (Py.neqNil Tryz.underlying70 xe rfl) ?_ | refine JO.py (Py.neqHeld Tryz.underlying70 xe rfl) ?_
    refine JO.nil (JX.code ?_)
    first | refine JC.condT xe ?_ | refine JC.condT ((xe).trans (vbool (decide_eq_true (by omega)))) ?_
    refine JC.seq (JC.seq (JC.region ?_))
    refine JO.py (Py.move xe) ?_
    refine JO.py (Py.load scal70 ev_glob xpick xrow) ?_
    refine JO.call (Evs.cons xe (Evs.cons xe Evs.nil)) (is_con G ea) xpkE ?_
    rintro _
    show JO _ _ _ _ _ _ _ ((77, _) :: _) _ (_ :: _)
    refine JO.nil (JX.code ?_)
    first | refine JC.condT xe ?_ | refine JC.condT ((xe).trans (vbool (decide_eq_true (by omega)))) ?_
    refine JC.seq (JC.region ?_)
    refine JO.py (Py.move xe) ?_
    refine JO.py (Py.assign xe) ?_
    refine JO.py (Py.assign ev_const) ?_
    refine JO.nil (JX.code (JC.ret (JX.ret (JX.blockR (JX.ret (JX.blockR (JX.ret ?_)))))))
    refine JX.end2 (Or.inl rfl) (v72) Tryz.results29 (tup2 ((xe).trans (by first | exact xval | (dsimp only; exact xval))) ((xe).trans (by first | exact xval | (dsimp only; exact xval)))) xpkE
end Go.Proofs.YtfpepghmbeoanaaGreatDoor
end

section
open Go Go.RowKit
namespace Go.Proofs.YtfpepghmbeoanaaGreatDoor
open Lz
set_option linter.unusedSimpArgs false
set_option linter.unusedVariables false
theorem rc_con (G : Gst) (X : DecP G) (hX : X.Ok) (rc rb : Nat) (Z x : Value) (a b e ds size a2 b2 e2 ds2 size2 : Int) (fresh : Bool) (re pb : Nat) (ps : Array Value) (hf : fresh = true → re = X.pre) (hre : X.pre ≤ re ∧ re ≤ X.pre + X.bs.length) (hp : 512 ≤ ps.size) (ea : Addr) (eT : TypeId) (ef : Nat × Nat) :
    Con Tryz.prog G 190 #[.pointer (some ⟨rc, 0, none⟩), .slice (some ⟨pb, 0, none⟩) 512 512] [cel rc 119 #[Z, .iface 109 (.pointer (some ⟨rb, 0, none⟩))], RdrC rb x a b e ds size a2 b2 e2 ds2 size2 (.pointer (some ⟨X.d, 0, none⟩)), DecSt X fresh re, cel pb 5 ps, EofA ea eT ef]
      (fun _ : Unit => .tuple #[.int .i64 (min 512 (X.pre + X.bs.length - re) : Nat), if X.pre + X.bs.length - re < 512 then eofV ea else .nilIface])
      (fun _ => [cel rc 119 #[Z, .iface 109 (.pointer (some ⟨rb, 0, none⟩))], RdrC rb x a b e ds size a2 b2 e2 ds2 size2 (.pointer (some ⟨X.d, 0, none⟩)), DecSt X false (re + min 512 (X.pre + X.bs.length - re)), cel pb 5 (splice ps 0 (piece X.all re (min 512 (X.pre + X.bs.length - re)))), EofA ea eT ef]) := by
  have h := rdr_con G X hX rb x a b e ds size a2 b2 e2 ds2 size2 fresh re pb 0 512 512 ps hf hre (by omega) (by decide) (Nat.le_refl _) ea eT ef
  have hm := mth109R (.pointer (some ⟨rb, 0, none⟩))
  refine Con.intro Tryz.func190 rfl (by kernel_rfl) Tryz.ntmps190 (Nat.le_of_ble_eq_true rfl) ?_
  intro F
  show JC _ _ _ _ _ _ [(0, _), (1, _)] _ [_, _, _, _, _, _]
  refine JC.seq (JC.region ?_)
  refine JO.py (Py.assign ev_const) ?_
  refine JO.py (Py.assign ev_const) ?_
  refine JO.nil (JX.code (JC.seq (JC.seq (JC.region ?_))))
  refine JO.py (Py.move xe) ?_
  refine JO.py (Py.nil xe) ?_
  refine JO.py (Py.fld fld119_1 xe xoff) ?_
  refine JO.py (Py.load scal113 xe xpick xrow) ?_
  first | refine JO.py (Py.eqlNil Tryz.underlying113 xe rfl) ?_ | refine JO.py (Py.eqlHeld Tryz.underlying113 xe rfl) ?_
  refine JO.nil (JX.code ?_)
  first | refine JC.condF xe ?_ | refine JC.condF ((xe).trans (vbool (decide_eq_false (by omega)))) ?_
  refine JC.skip (JX.code (JC.seq (JC.region ?_)))
  refine JO.py (Py.move xe) ?_
  refine JO.py (Py.nil xe) ?_
  refine JO.py (Py.fld fld119_1 xe xoff) ?_
  refine JO.py (Py.load scal113 xe xpick xrow) ?_
  refine JO.py (Py.move xe) ?_
  refine JO.invoke xe (Evs.cons xe Evs.nil) (hm) h xpkE ?_
  rintro _
  show JO _ _ _ _ _ _ _ ((20, _) :: _) _ (_ :: _ :: _ :: _ :: _ :: _)
  by_cases hlt : X.pre + X.bs.length - re < 512
  · skip
    rw [if_pos hlt]
    refine JO.py (Py.move xe) ?_
    refine JO.py (Py.extrI xe xix) ?_
    refine JO.py (Py.extrI xe xix) ?_
    refine JO.py (Py.assign xe) ?_
    refine JO.py (Py.assign xe) ?_
    refine JO.nil (JX.code (JC.seq (JC.seq (JC.region ?_))))
    refine JO.py (Py.move xe) ?_
    first | refine JO.py (Py.neqNil Tryz.underlying70 xe rfl) ?_ | refine JO.py (Py.neqHeld Tryz.underlying70 xe rfl) ?_
    refine JO.py (Py.move xe) ?_
    first | (refine JO.go rfl (Lk.ev (v := .bool true) xlk rfl) ?_; (refine JO.py (Py.move xe) ?_)) | refine JO.skipS rfl (Lk.ev (v := .bool false) xlk rfl) ?_
    first | (refine JO.go rfl (Lk.ev (v := .bool true) xlk rfl) ?_; (refine JO.py (Py.load scal70 ev_glob xpick xrow) ?_)) | refine JO.skipS rfl (Lk.ev (v := .bool false) xlk rfl) ?_
    refine JO.go rfl (Lk.ev (v := .bool true) xlk rfl) ?_
    refine JO.call (Evs.cons xe (Evs.cons xe Evs.nil)) (is_con G ea) xpkE ?_
    rintro _
    show JO _ _ _ _ _ _ _ ((28, _) :: _) _ (_ :: _)
    first | (refine JO.go rfl (Lk.ev (v := .bool true) xlk rfl) ?_; (refine JO.py (Py.not xe (by first | with_reducible exact not_t | with_reducible exact not_f | exact rfl)) ?_)) | refine JO.skipS rfl (Lk.ev (v := .bool false) xlk rfl) ?_
    first | refine JO.py (Py.pickT xe xe) ?_ | refine JO.py (Py.pickF xe ev_const) ?_
    refine JO.nil (JX.code ?_)
    first | refine JC.condF xe ?_ | refine JC.condF ((xe).trans (vbool (decide_eq_false (by omega)))) ?_
    refine JC.skip (JX.code (JC.seq (JC.region ?_)))
    refine JO.py (Py.move xe) ?_
    refine JO.py (Py.move xe) ?_
    refine JO.py (Py.assign xe) ?_
    refine JO.py (Py.assign xe) ?_
    refine JO.nil (JX.code (JC.ret ?_))
    refine JX.end2 (Or.inl rfl) (()) Tryz.results190 (tup2 ((xe).trans (by first | exact xval | (dsimp only; exact xval))) ((xe).trans (by first | exact xval | (dsimp only; exact xval)))) xpkE
  · skip
    rw [if_neg hlt]
    refine JO.py (Py.move xe) ?_
    refine JO.py (Py.extrI xe xix) ?_
    refine JO.py (Py.extrI xe xix) ?_
    refine JO.py (Py.assign xe) ?_
    refine JO.py (Py.assign xe) ?_
    refine JO.nil (JX.code (JC.seq (JC.seq (JC.region ?_))))
    refine JO.py (Py.move xe) ?_
    first | refine JO.py (Py.neqNil Tryz.underlying70 xe rfl) ?_ | refine JO.py (Py.neqHeld Tryz.underlying70 xe rfl) ?_
    refine JO.py (Py.move xe) ?_
    first | (refine JO.go rfl (Lk.ev (v := .bool true) xlk rfl) ?_; (refine JO.py (Py.move xe) ?_)) | refine JO.skipS rfl (Lk.ev (v := .bool false) xlk rfl) ?_
    first | (refine JO.go rfl (Lk.ev (v := .bool true) xlk rfl) ?_; (refine JO.py (Py.load scal70 ev_glob xpick xrow) ?_)) | refine JO.skipS rfl (Lk.ev (v := .bool false) xlk rfl) ?_
    refine JO.skipS rfl (Lk.ev (v := .bool false) xlk rfl) ?_
    first | (refine JO.go rfl (Lk.ev (v := .bool true) xlk rfl) ?_; (refine JO.py (Py.not xe (by first | with_reducible exact not_t | with_reducible exact not_f | exact rfl)) ?_)) | refine JO.skipS rfl (Lk.ev (v := .bool false) xlk rfl) ?_
    first | refine JO.py (Py.pickT xe xe) ?_ | refine JO.py (Py.pickF xe ev_const) ?_
    refine JO.nil (JX.code ?_)
    first | refine JC.condF xe ?_ | refine JC.condF ((xe).trans (vbool (decide_eq_false (by omega)))) ?_
    refine JC.skip (JX.code (JC.seq (JC.region ?_)))
    refine JO.py (Py.move xe) ?_
    refine JO.py (Py.move xe) ?_
    refine JO.py (Py.assign xe) ?_
    refine JO.py (Py.assign xe) ?_
    refine JO.nil (JX.code (JC.ret ?_))
    refine JX.end2 (Or.inl rfl) (()) Tryz.results190 (tup2 ((xe).trans (by first | exact xval | (dsimp only; exact xval))) ((xe).trans (by first | exact xval | (dsimp only; exact xval)))) xpkE
theorem ite_dec {p : Prop} [Decidable p] {a b : Value} : (if decide p = true then a else b) = if p then a else b := by by_cases h : p <;> simp [h]
/-- What LZMA's reader stands on. -/
abbrev LzI (G : Gst) (bs : List Nat) : Type := {x : Nat × Nat × Nat × Nat × DecP G // x.2.2.2.2.Ok ∧ x.2.2.2.2.pre = 0 ∧ x.2.2.2.2.bs = bs ∧ x.2.2.2.2.all = bs}
abbrev lzCells (G : Gst) (c : Cfg) (bs : List Nat) (z : Nat) (x : LzI G bs) (fresh : Bool) (re : Nat) : List Asn :=
  [cel x.1.2.1 119 #[.iface 88 (.agg #[.pointer (some ⟨x.1.1, 0, none⟩)]), .iface 109 (.pointer (some ⟨x.1.2.2.1, 0, none⟩))], RdrC x.1.2.2.1 (.iface 171 (.pointer (some ⟨x.1.2.2.2.1, 0, none⟩))) c.lc c.lp c.pb 4096 z c.lc c.lp c.pb 65536 z (.pointer (some ⟨x.1.2.2.2.2.d, 0, none⟩)), DecSt x.1.2.2.2.2 fresh re]
def lzRd (G : Gst) (ea : Addr) (eT : TypeId) (ef : Nat × Nat) (c : Cfg) (bs : List Nat) (z : Nat) (x : LzI G bs) : RdSrc G ea eT ef where
  σ := {s : Bool × Nat // s.2 ≤ bs.length ∧ (s.1 = true → s.2 = 0)}
  t := 115
  u := .pointer (some ⟨x.1.2.1, 0, none⟩)
  f := 190
  out := bs
  pos := fun s => s.1.2
  ms := fun s => bs.length - s.1.2
  A := fun s => Ex fun _ : Unit => lzCells G c bs z x s.1.1 s.1.2
  s0 := ⟨(true, 0), Nat.zero_le _, fun _ => rfl⟩
  p0 := rfl
  le := fun s => s.2.1
  m := mth115R _
  con := by
    rintro ⟨⟨fresh, re⟩, h1, h2⟩ pb
    obtain ⟨⟨r, rc, rd, mb, X⟩, hX, hp, hb, ha⟩ := x
    dsimp only at h1 h2 hX hp hb ha ⊢
    subst hb
    have h := rc_con G X hX rc rd (.iface 88 (.agg #[.pointer (some ⟨r, 0, none⟩)])) (.iface 171 (.pointer (some ⟨mb, 0, none⟩))) c.lc c.lp c.pb 4096 z c.lc c.lp c.pb 65536 z fresh re pb (Array.replicate 512 (.int .u8 0)) (by rw [hp]; exact h2) (by omega) (by simp) ea eT ef
    rw [hp, Nat.zero_add, ha] at h
    refine Con.conseq h fun F w hw => ?_
    obtain ⟨_, hw1⟩ := Sat.opens (f := fun _ : Unit => lzCells G c X.bs z ⟨(r, rc, rd, mb, X), hX, hp, rfl, ha⟩ fresh re) (l := [cel pb 5 (Array.replicate 512 (.int .u8 0)), EofA ea eT ef, F]) hw
    refine ⟨F, hw1, ?_⟩
    rintro _ w' hw'
    obtain ⟨n, hn⟩ : ∃ n, min 512 (X.bs.length - re) = n := ⟨_, rfl⟩
    rw [hn] at hw' ⊢
    refine ⟨⟨(⟨(false, re + n), by dsimp only; omega, fun h => by cases h⟩, n, decide (X.bs.length - re < 512)), rfl, by dsimp only; omega, ?_, ?_⟩, ?_, ?_⟩
    · intro h
      have := of_decide_eq_true h
      dsimp only; omega
    · intro h
      have := of_decide_eq_false h
      dsimp only; omega
    · exact congrArg (fun y => Value.tuple #[.int .i64 (n : Int), y]) ite_dec.symm
    · exact Sat.shuts (f := fun _ : Unit => lzCells G c X.bs z ⟨(r, rc, rd, mb, X), hX, hp, rfl, ha⟩ false (re + n)) () hw'
theorem newLzR_con (G : Gst) (pv sv : Value) (rb rc r : Nat) (rcur : Array Value) (hr0 : rcur[0]? = some (.iface 88 (.agg #[.pointer (some ⟨r, 0, none⟩)]))) (c : Cfg) (bs : List Nat) (l : List Sym) (x1 x2 x3 x4 : Nat) (xs : List Nat) (hs : StreamOk c bs l x1 x2 x3 x4 xs) (hx : ∀ x ∈ xs, x < 256) (hxl : xs.length ≤ 900000) (z : Nat) (hz : bs.length = z) (ea : Addr) (eT : TypeId) (ef : Nat × Nat) :
    Con Tryz.prog G 39 #[pv, .int .u64 (z : Int), .slice (some ⟨rb, 0, none⟩) 1 rc] [Row 5 pv (u8s ((c.lc + 9 * (c.lp + 5 * c.pb)) :: leN 65536 4)), cel rb 90 rcur, BrA r sv 0 (-1), Row 5 sv (u8s (0 :: x1 :: x2 :: x3 :: x4 :: xs)), EofA ea eT ef]
      (fun i : LzI G bs => .tuple #[.iface (lzRd G ea eT ef c bs z i).t (lzRd G ea eT ef c bs z i).u, .nilIface]) (fun i => [(lzRd G ea eT ef c bs z i).A (lzRd G ea eT ef c bs z i).s0, EofA ea eT ef]) := by
  have h := newLz_con G pv sv rb rc r rcur hr0 c bs l x1 x2 x3 x4 xs hs hx hxl z hz ea eT ef
  refine Con.conseq h fun F w hw => ⟨F, hw, ?_⟩
  rintro ⟨⟨rc', rd, mb, X⟩, hX⟩ w' hw'
  refine ⟨⟨(r, rc', rd, mb, X), hX⟩, rfl, ?_⟩
  exact Sat.shuts (f := fun _ : Unit => lzCells G c bs z ⟨(r, rc', rd, mb, X), hX⟩ true 0) () hw'
section
variable {P : Program} {G : Gst} {ops : Array Oper} {Q : Exit → Act → World → Prop} {n : Nat} {base : Nat → Value} {L : List (Nat × Value)} {D : List Deferred} {As r : List Asn}
theorem JC.rowSplit {e : TypeId} {v : Value} {xs : List Value} {l : Code} (q : Pick (Row e v xs) As r) (k1 : v = .slice none 0 0 → xs = [] → JC P G Q l n base L D As) (k : ∀ b cap cur, v = .slice (some ⟨b, 0, none⟩) xs.length cap → RowOf xs cap cur → JC P G Q l n base L D (cel b e cur :: r)) : JC P G Q l n base L D As :=
  ⟨fun w hw => by
    obtain ⟨h1, h2, hd, he, hA, hB⟩ := (hw.pick q).mem
    rcases hA with ⟨hv, hx⟩ | ⟨b, cap, cur, hv, hc, hlt, hs, ht, hb⟩
    · exact (k1 hv hx).run w hw
    · exact (k b cap cur hv ⟨hc, hlt, hs, ht⟩).run w ((hw.pick q).of fun _ => ⟨h1, h2, hd, he, hb, hB⟩)⟩
end
set_option maxRecDepth 100000 in
theorem cloneRow_con (G : Gst) (v : Value) (xs : List Nat) (hx : ∀ x ∈ xs, x < 256) (hl : xs.length ≤ 1000000) : Con Tryz.prog G 15 #[v] [Row 5 v (u8s xs)] (fun x : Value => x) (fun x => [Row 5 x (u8s xs)]) := by
  refine Con.intro Tryz.func15 rfl (by kernel_rfl) Tryz.ntmps15 (Nat.le_of_ble_eq_true rfl) ?_
  intro F
  show JC _ _ _ _ _ _ [(0, _)] _ [_, _]
  refine JC.rowSplit (e := 5) (v := v) (xs := u8s xs) xpick ?_ ?_
  · rintro rfl hxs
    rw [hxs]
    refine JC.seq (JC.region ?_)
    refine JO.py (Py.assign ev_const) ?_
    refine JO.nil (JX.code (JC.seq (JC.seq (JC.region ?_))))
    refine JO.py (Py.move xe) ?_
    refine JO.py (Py.to (v' := .bool true) (Py.eqlSN Tryz.underlying22 xe) rfl) ?_
    refine JO.nil (JX.code ?_)
    first | refine JC.condT xe ?_ | refine JC.condT ((xe).trans (vbool (decide_eq_true (by omega)))) ?_
    refine JC.seq (JC.region ?_)
    refine JO.py (Py.assign ev_const) ?_
    refine JO.nil (JX.code (JC.ret (JX.ret ?_)))
    refine JX.end1 (Or.inl rfl) (.slice none 0 0) Tryz.results15 ((xe).trans (by first | exact xval | (dsimp only; exact xval))) xpkE
  · rintro b cap cur rfl hr
    obtain ⟨m, hm⟩ : ∃ m, xs.length = m := ⟨_, rfl⟩
    have hsz := hr.size
    have hle := hr.le
    rw [u8s_len, hm] at hle ⊢
    refine JC.seq (JC.region ?_)
    refine JO.py (Py.assign ev_const) ?_
    refine JO.nil (JX.code (JC.seq (JC.seq (JC.region ?_))))
    refine JO.py (Py.move xe) ?_
    refine JO.py (Py.to (v' := .bool false) (Py.eqlSN Tryz.underlying22 xe) rfl) ?_
    refine JO.nil (JX.code ?_)
    first | refine JC.condF xe ?_ | refine JC.condF ((xe).trans (vbool (decide_eq_false (by omega)))) ?_
    refine JC.skip (JX.code (JC.seq (JC.region ?_)))
    refine JO.bslice Tryz.underlying22 elm5 Evs.nil rfl rfl (by first | (simp [Value.oneCell']; done) | (simp only [List.mem_cons, List.not_mem_nil, or_false, forall_eq]; assumption) | fail) (by decide) ?_; intro b5
    refine JO.py (Py.move xe) ?_
    refine JO.toRow (b := b5) (e := 5) (cur := #[]) (xs := u8s []) (m := 0) xpick rfl rfl (by decide) ?_
    refine JO.app Tryz.underlying22 elm5 xe xe xpick (Src.cel rfl xpick (by rw [Nat.zero_add, hsz]; exact hle) ((hr.rd hx).ext hm (by rw [Nat.zero_add, hsz]; exact hle)) u8s_one) (by simp [u8s]; omega) (by decide) ?_
    intro v7 ho7
    rw [show u8s [] ++ u8s xs = u8s xs from rfl]
    refine JO.py (Py.assign xe) ?_
    refine JO.nil (JX.code (JC.ret ?_))
    refine JX.end1 (Or.inl rfl) (v7) Tryz.results15 ((xe).trans (by first | exact xval | (dsimp only; exact xval))) xpkE
/-- Which method an id names. -/
def IdOf (id : List Nat) (f : FuncId) : Prop := (id.map UInt8.ofNat = [3, 1, 1] ∧ f = 39) ∨ (id.map UInt8.ofNat = [33] ∧ f = 46) ∨ (id.map UInt8.ofNat = [3, 3, 1, 3] ∧ f = 40) ∨ (id.map UInt8.ofNat = [3, 3, 2, 5] ∧ f = 42) ∨ (id.map UInt8.ofNat = [3, 3, 5, 1] ∧ f = 43) ∨ (id.map UInt8.ofNat = [3, 3, 8, 5] ∧ f = 44)
set_option maxRecDepth 100000 in
theorem method_con (G : Gst) (ea : Addr) (eT : TypeId) (ef : Nat × Nat) (ib : Nat) (id : List Nat) (im : Nat) (him : id.length = im) (hid : ∀ x ∈ id, x < 256) (f : FuncId) (h : IdOf id f)
    (pv bv : Value) (z : Nat) (hz : z ≤ 60000) (st : List Nat) (hst : ∀ x ∈ st, x < 256) (hsl : st.length ≤ 1000000) (A : Asn) {ι : Type} (S : ι → RdSrc G ea eT ef) (out : List Nat) (hout : ∀ i, (S i).out = out) (holen : out.length ≤ 60000) (hob : ∀ x ∈ out, x < 256)
    (hnew : ∀ sv rb rc r rcur, rcur[0]? = some (.iface 88 (.agg #[.pointer (some ⟨r, 0, none⟩)])) → Con Tryz.prog G f #[pv, .int .u64 (z : Int), .slice (some ⟨rb, 0, none⟩) 1 rc] [A, cel rb 90 rcur, BrA r sv 0 (-1), Row 5 sv (u8s st), EofA ea eT ef]
      (fun i : ι => .tuple #[.iface (S i).t (S i).u, .nilIface]) (fun i => [(S i).A (S i).s0, EofA ea eT ef])) :
    Con Tryz.prog G 14 #[.slice (some ⟨ib, 0, none⟩) im im, pv, .int .i64 (z : Int), bv] [cel ib 5 (u8s id).toArray, A, Row 5 bv (u8s st), EofA ea eT ef]
      (fun v : Value => .tuple #[v, .bool true]) (fun v => [Row 5 v (u8s out), EofA ea eT ef]) := by
  refine Con.intro Tryz.func14 rfl (by kernel_rfl) Tryz.ntmps14 (Nat.le_of_ble_eq_true rfl) ?_
  intro F
  show JC _ _ _ _ _ _ [(0, _), (1, _), (2, _), (3, _)] _ [_, _, _, _, _]
  refine JC.seq (JC.region ?_)
  refine JO.py (Py.assign ev_const) ?_
  refine JO.py (Py.assign ev_const) ?_
  refine JO.nil (JX.code (JC.seq (JC.region ?_)))
  refine JO.py (Py.move xe) ?_
  refine JO.py (Py.move xe) ?_
  refine JO.py (Py.move xe) ?_
  first | refine JO.py (Py.conv cnv3_43 xe (w_u64 (by omega))) ?_ | refine JO.py (Py.conv cnv3_43 xe (m_u64 _)) ?_
  refine JO.py (Py.move xe) ?_
  refine JO.call (Evs.cons xe Evs.nil) (cloneRow_con G bv st hst hsl) xpkE ?_
  rintro sv
  show JO _ _ _ _ _ _ _ ((18, _) :: _) _ (_ :: _ :: _)
  refine JO.rowV (e := 5) (v := sv) (xs := u8s st) xpick ?_
  intro a_ c_ hsv _
  have hs1 : sv.oneCell' = true := by rw [hsv]; rfl
  refine JO.bslice Tryz.underlying68 elm22 (Evs.cons xe Evs.nil) rfl rfl (by first | (simp [Value.oneCell']; done) | (simp only [List.mem_cons, List.not_mem_nil, or_false, forall_eq]; assumption) | fail) (by decide) ?_; intro b19
  refine JO.call (Evs.cons xe (Evs.cons xe (Evs.cons xe (Evs.cons xe (Evs.cons ev_const Evs.nil))))) (zz_con G ea eT ef ib id im him hid f h pv sv hs1 z b19 st A S out hout holen (hnew sv)) xpkE ?_
  rintro ov
  show JO _ _ _ _ _ _ _ ((20, _) :: _) _ (_ :: _ :: _ :: _)
  refine JO.py (Py.move xe) ?_
  refine JO.py (Py.extrI xe xix) ?_
  refine JO.py (Py.extrI xe xix) ?_
  refine JO.py (Py.assign xe) ?_
  refine JO.py (Py.assign xe) ?_
  refine JO.nil (JX.code (JC.seq (JC.seq (JC.region ?_))))
  refine JO.py (Py.move xe) ?_
  first | refine JO.py (Py.neqNil Tryz.underlying70 xe rfl) ?_ | refine JO.py (Py.neqHeld Tryz.underlying70 xe rfl) ?_
  refine JO.nil (JX.code ?_)
  first | refine JC.condF xe ?_ | refine JC.condF ((xe).trans (vbool (decide_eq_false (by omega)))) ?_
  refine JC.skip (JX.code (JC.seq (JC.region ?_)))
  refine JO.py (Py.move xe) ?_
  refine JO.call (Evs.cons xe Evs.nil) (cloneRow_con G ov out hob (by omega)) xpkE ?_
  rintro v
  show JO _ _ _ _ _ _ _ ((26, _) :: _) _ (_ :: _ :: _)
  refine JO.py (Py.assign xe) ?_
  refine JO.py (Py.assign ev_const) ?_
  refine JO.nil (JX.code (JC.ret ?_))
  refine JX.end2 (Or.inl rfl) (v) Tryz.results14 (tup2 ((xe).trans (by first | exact xval | (dsimp only; exact xval))) ((xe).trans (by first | exact xval | (dsimp only; exact xval)))) xpkE
theorem implLz_con (G : Gst) (ea : Addr) (eT : TypeId) (ef : Nat × Nat) (pv bv : Value) (c : Cfg) (bs : List Nat) (l : List Sym) (x1 x2 x3 x4 : Nat) (xs : List Nat) (hs : StreamOk c bs l x1 x2 x3 x4 xs) (hx : ∀ x ∈ 0 :: x1 :: x2 :: x3 :: x4 :: xs, x < 256) (hxl : xs.length ≤ 900000) (z : Nat) (hz : bs.length = z) :
    Con Tryz.prog G 7 #[pv, .int .i64 (z : Int), bv] [Row 5 pv (u8s ((c.lc + 9 * (c.lp + 5 * c.pb)) :: leN 65536 4)), Row 5 bv (u8s (0 :: x1 :: x2 :: x3 :: x4 :: xs)), EofA ea eT ef]
      (fun v : Value => .tuple #[v, .bool true]) (fun v => [Row 5 v (u8s bs), EofA ea eT ef]) := by
  have h1 := hs.ok.l
  have h2 := hs.ok.p
  have hlen := hs.len
  have hpx : ∀ x ∈ (c.lc + 9 * (c.lp + 5 * c.pb)) :: leN 65536 4, x < 256 := by
    intro x hxm
    simp only [List.mem_cons] at hxm
    rcases hxm with rfl | h
    · omega
    · exact leN_lt _ _ _ h
  refine Con.intro Tryz.func7 rfl (by kernel_rfl) Tryz.ntmps7 (Nat.le_of_ble_eq_true rfl) ?_
  intro F
  show JC _ _ _ _ _ _ [(0, _), (1, _), (2, _)] _ [_, _, _, _]
  refine JC.seq (JC.region ?_)
  refine JO.py (Py.assign ev_const) ?_
  refine JO.py (Py.assign ev_const) ?_
  refine JO.nil (JX.code (JC.seq (JC.region ?_)))
  refine JO.bslice Tryz.underlying22 elm5 (Evs.cons ev_const (Evs.cons ev_const (Evs.cons ev_const Evs.nil))) rfl rfl (by first | (simp [Value.oneCell']; done) | (simp only [List.mem_cons, List.not_mem_nil, or_false, forall_eq]; assumption) | fail) (by decide) ?_; intro b8
  refine JO.py (Py.move xe) ?_
  refine JO.call (Evs.cons xe Evs.nil) (cloneRow_con G pv _ hpx (by simp [leN])) xpkE ?_
  rintro qv
  show JO _ _ _ _ _ _ _ ((10, _) :: _) _ (_ :: _ :: _)
  refine JO.py (Py.move xe) ?_
  refine JO.py (Py.move xe) ?_
  refine JO.as (A := cel b8 5 #[.int .u8 3, .int .u8 1, .int .u8 1]) (A' := cel b8 5 (u8s [3, 1, 1]).toArray) xpick (rfl) ?_
  refine JO.call (Evs.cons xe (Evs.cons xe (Evs.cons xe (Evs.cons xe Evs.nil)))) (method_con G ea eT ef b8 [3, 1, 1] 3 rfl (by decide) 39 (.inl ⟨rfl, rfl⟩) qv bv z (by omega) (0 :: x1 :: x2 :: x3 :: x4 :: xs) hx (by simp; omega) (Row 5 qv (u8s ((c.lc + 9 * (c.lp + 5 * c.pb)) :: leN 65536 4))) (lzRd G ea eT ef c bs z) bs (fun _ => rfl) (by omega) hs.by' (fun sv rb rc r rcur hr0 => newLzR_con G qv sv rb rc r rcur hr0 c bs l x1 x2 x3 x4 xs hs (fun x h => hx x (by simp [h])) hxl z hz ea eT ef)) xpkE ?_
  rintro v
  show JO _ _ _ _ _ _ _ ((13, _) :: _) _ (_ :: _ :: _ :: _)
  refine JO.py (Py.extrI xe xix) ?_
  refine JO.py (Py.extrI xe xix) ?_
  refine JO.py (Py.assign xe) ?_
  refine JO.py (Py.assign xe) ?_
  refine JO.nil (JX.code (JC.ret ?_))
  refine JX.end2 (Or.inl rfl) (v) Tryz.results7 (tup2 ((xe).trans (by first | exact xval | (dsimp only; exact xval))) ((xe).trans (by first | exact xval | (dsimp only; exact xval)))) xpkE
end Go.Proofs.YtfpepghmbeoanaaGreatDoor
end
