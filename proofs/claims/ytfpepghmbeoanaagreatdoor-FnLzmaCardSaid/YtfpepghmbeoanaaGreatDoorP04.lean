/-
The coder of the reference: shift.
The coder of the reference: bits.
The coder of the reference: chances in rows; even bits, trees.
The coder of the reference: even bits, trees.
The coder of the reference: lengths, distances, bytes.
The coder of the reference: a byte.
The coder of the reference: a distance.
-/
import Derived.Test.YtfpepghmbeoanaaGreatDoorP03
set_option linter.unusedSimpArgs false
set_option linter.unusedVariables false
section
open Go Go.RowKit
namespace Go.Proofs.YtfpepghmbeoanaaGreatDoor
open Lz
/-- A coder of bits in memory. -/
abbrev CoderC (g low span cache held : Nat) (out : List Nat) : Asn :=
  Ex fun (v : Value) => [cel g 47 #[.int .u64 low, .int .u32 span, .int .u8 cache, .int .i64 held, v], Row 5 v (u8s out)]
abbrev CoderA (g : Nat) (E : Enc) : Asn := CoderC g E.low E.span E.cache E.held E.out

set_option maxRecDepth 100000 in
theorem shift_con (G : Gst) (g : Nat) (E : Enc) (hh : 1 ≤ E.held) (hl : E.low < 8589934592) (_hc : E.cache < 256) (hn : E.cnt ≤ 1000000000) :
    Con Tryz.prog G 27 #[.pointer (some ⟨g, 0, none⟩)] [CoderA g E] (fun _ : Unit => .tuple #[]) (fun _ => [CoderA g E.shift]) := by
  have hn' : E.out.length + E.held ≤ 1000000000 := hn
  refine Con.intro Tryz.func27 rfl (by kernel_rfl) Tryz.ntmps27 (Nat.le_of_ble_eq_true rfl) ?_
  intro F
  show JC _ _ _ _ _ _ [(0, _)] _ [_, _]
  refine JC.open xpick ?_
  rintro v0
  show JC _ _ _ _ _ _ _ _ (_ :: _ :: _ :: _)
  by_cases hA : E.low % 4294967296 < 4278190080 ∨ 4294967296 ≤ E.low
  · skip
    have hsh : E.shift = { low := E.low % 16777216 * 256, span := E.span, cache := E.low / 16777216 % 256, held := 1, out := E.out ++ ((E.cache + E.low / 4294967296) % 256 :: List.replicate (E.held - 1) ((255 + E.low / 4294967296) % 256)) } := by
      unfold Enc.shift; rw [if_pos hA]
    rw [hsh]
    have hA' : E.low % 4294967296 < 4278190080 ∨ (¬ E.low % 4294967296 < 4278190080 ∧ 4294967296 ≤ E.low) := by omega
    clear hA
    obtain ⟨cy, hcy⟩ : ∃ cy, cy = E.low / 4294967296 := ⟨_, rfl⟩
    rcases hA' with hA | hA
    all_goals
      refine JC.seq (JC.seq (JC.region ?_))
      refine JO.py (Py.move xe) ?_
      refine JO.py (Py.nil xe) ?_
      refine JO.py (Py.fld fld47_0 xe xoff) ?_
      refine JO.py (Py.load scal43 xe xpick xrow) ?_
      first | refine JO.py (Py.conv cnv43_45 xe (w_u32 (by omega))) ?_ | refine JO.py (Py.conv cnv43_45 xe (m_u32 _)) ?_
      first | refine JO.py (Py.dec (Py.lss xe ev_const) (by omega)) ?_ | refine JO.py (Py.undec (Py.lss xe ev_const) (by omega)) ?_ | refine JO.py (Py.lss xe ev_const) ?_
      refine JO.py (Py.move xe) ?_
      first | (refine JO.go rfl (Lk.ev (v := .bool false) xlk rfl) ?_; (refine JO.py (Py.move xe) ?_)) | refine JO.skipS rfl (Lk.ev (v := .bool true) xlk rfl) ?_
      first | (refine JO.go rfl (Lk.ev (v := .bool false) xlk rfl) ?_; (refine JO.py (Py.nil xe) ?_)) | refine JO.skipS rfl (Lk.ev (v := .bool true) xlk rfl) ?_
      first | (refine JO.go rfl (Lk.ev (v := .bool false) xlk rfl) ?_; (refine JO.py (Py.fld fld47_0 xe xoff) ?_)) | refine JO.skipS rfl (Lk.ev (v := .bool true) xlk rfl) ?_
      first | (refine JO.go rfl (Lk.ev (v := .bool false) xlk rfl) ?_; (refine JO.py (Py.load scal43 xe xpick xrow) ?_)) | refine JO.skipS rfl (Lk.ev (v := .bool true) xlk rfl) ?_
      first | (refine JO.go rfl (Lk.ev (v := .bool false) xlk rfl) ?_; (refine JO.py (Py.shr 32 4294967296 xe ev_const rfl (by decide) (by decide) (by decide)) ?_)) | refine JO.skipS rfl (Lk.ev (v := .bool true) xlk rfl) ?_
      first | (refine JO.go rfl (Lk.ev (v := .bool false) xlk rfl) ?_; (first | refine JO.py (Py.dec (Py.neq xe ev_const) (by omega)) ?_ | refine JO.py (Py.undec (Py.neq xe ev_const) (by omega)) ?_ | refine JO.py (Py.neq xe ev_const) ?_)) | refine JO.skipS rfl (Lk.ev (v := .bool true) xlk rfl) ?_
      first | refine JO.py (Py.pickT xe ev_const) ?_ | refine JO.py (Py.pickF xe xe) ?_
      refine JO.nil (JX.code ?_)
      first | refine JC.condT xe ?_ | refine JC.condT ((xe).trans (vbool (decide_eq_true (by omega)))) ?_
      refine JC.seq (JC.region ?_)
      refine JO.py (Py.move xe) ?_
      refine JO.py (Py.nil xe) ?_
      refine JO.py (Py.fld fld47_0 xe xoff) ?_
      refine JO.py (Py.load scal43 xe xpick xrow) ?_
      refine JO.py (Py.shr 32 4294967296 xe ev_const rfl (by decide) (by decide) (by decide)) ?_
      first | refine JO.py (Py.conv cnv43_5 xe (w_u8 (by omega))) ?_ | refine JO.py (Py.conv cnv43_5 xe (m_u8 _)) ?_
      refine JO.py (Py.assign xe) ?_
      refine JO.nil (JX.code (JC.seq (JC.seq (JC.region ?_))))
      refine JO.py (Py.move xe) ?_
      refine JO.py (Py.nil xe) ?_
      refine JO.py (Py.fld fld47_3 xe xoff) ?_
      refine JO.py (Py.load scal3 xe xpick xrow) ?_
      first | refine JO.py (Py.dec (Py.gtr xe ev_const) (by omega)) ?_ | refine JO.py (Py.undec (Py.gtr xe ev_const) (by omega)) ?_ | refine JO.py (Py.gtr xe ev_const) ?_
      refine JO.nil (JX.code ?_)
      first | refine JC.condT xe ?_ | refine JC.condT ((xe).trans (vbool (decide_eq_true (by omega)))) ?_
      refine JC.seq ?_
      refine JC.regionM [(0, true), (1, true), (2, true), (3, true), (4, true), (5, true), (6, true), (7, true), (8, true), (9, true), (10, true), (11, false), (12, false), (13, true), (14, true), (15, false)] mixed (by kernel_rfl) ?_
      refine JM.py Ao0 ⟨fun _ => Py.move xe⟩ ?_
      refine JM.py Ao1 ⟨fun _ => Py.move xe⟩ ?_
      refine JM.py Ao2 ⟨fun _ => Py.nil xe⟩ ?_
      refine JM.py Ao3 ⟨fun _ => Py.fld fld47_4 xe xoff⟩ ?_
      refine JM.ld Ao4 scal22 xe xpick xrow ?_
      refine JM.py Ao5 ⟨fun _ => Py.move xe⟩ ?_
      refine JM.py Ao6 ⟨fun _ => Py.nil xe⟩ ?_
      refine JM.py Ao7 ⟨fun _ => Py.fld fld47_2 xe xoff⟩ ?_
      refine JM.ld Ao8 scal5 xe xpick xrow ?_
      refine JM.py Ao9 ⟨fun _ => Py.move xe⟩ ?_
      first | refine JM.py Ao10 ⟨fun _ => Py.add xe xe (w_u8 (by omega))⟩ ?_ | refine JM.py Ao10 ⟨fun _ => Py.add xe xe (m_u8 _)⟩ ?_
      refine JM.eff Ao11 ?_
      refine JO.bslice Tryz.underlying22 elm5 (Evs.cons xe Evs.nil) rfl rfl (by simp [Value.oneCell']) (by decide) ?_; intro b39
      refine JO.nil ?_
      refine JX.mix (Kept.drop (Forced.trans (q := 10) (Forced.step (by kernel_rfl)) (Forced.step (by kernel_rfl))) (Kept.keep (fun _ hw => hw.cell xpick xrow) Kept.nil)) ?_
      refine JM.eff Ao12 ?_
      refine JO.app Tryz.underlying22 elm5 xe xe xpick (Src.lit rfl xpick (by rfl) (by simp [Value.oneCell'])) (by simp [u8s]; omega) (by decide) ?_
      intro v40 ho40
      refine JO.nil ?_
      refine JX.mix (Kept.drop (Forced.step (by kernel_rfl)) Kept.nil) ?_
      refine JM.py Ao13 ⟨fun _ => Py.nil xe⟩ ?_
      refine JM.py Ao14 ⟨fun _ => Py.fld fld47_4 xe xoff⟩ ?_
      refine JM.eff Ao15 ?_
      refine JO.store siz22 xe xe (by first | rfl | assumption) xpick xsize xnorm ?_
      refine JO.nil ?_
      refine JX.mix Kept.nil ?_
      refine JM.nil (JX.code (JC.seq (JC.block ?_)))
      refine JC.as (A := Row 5 v40 _) (A' := Row 5 v40 (u8s (E.out ++ [(E.cache + cy) % 256]))) xpick (row_eq (u8s_snoc (by omega))) ?_
      refine JC.loop (ι := Nat × Value) (fun i => i.1 + 1 ≤ E.held) (fun i => [(0, .pointer (some ⟨g, 0, none⟩)), (2, .int .u8 (cy % 256 : Nat))]) (fun i => [cel g 47 #[.int .u64 E.low, .int .u32 E.span, .int .u8 E.cache, .int .i64 (E.held - i.1 : Nat), i.2], Row 5 i.2 (u8s (E.out ++ [(E.cache + cy) % 256] ++ List.replicate i.1 ((255 + cy) % 256))), F]) (fun i => E.held - i.1) (0, v40) hh xag xpk ?_
      rintro ⟨j, v⟩ base' hj
      dsimp only at hj
      dsimp only
      by_cases hc1 : j + 1 < E.held
      · skip
        refine JC.seq (JC.seq (JC.region ?_))
        refine JO.py (Py.move xe) ?_
        refine JO.py (Py.nil xe) ?_
        refine JO.py (Py.fld fld47_3 xe xoff) ?_
        refine JO.py (Py.load scal3 xe xpick xrow) ?_
        first | refine JO.py (Py.dec (Py.gtr xe ev_const) (by omega)) ?_ | refine JO.py (Py.undec (Py.gtr xe ev_const) (by omega)) ?_ | refine JO.py (Py.gtr xe ev_const) ?_
        refine JO.nil (JX.code ?_)
        first | refine JC.condT xe ?_ | refine JC.condT ((xe).trans (vbool (decide_eq_true (by omega)))) ?_
        refine JC.skip (JX.code (JC.seq (JC.block (JC.region ?_))))
        refine JO.py (Py.move xe) ?_
        refine JO.py (Py.move xe) ?_
        refine JO.py (Py.nil xe) ?_
        refine JO.py (Py.fld fld47_4 xe xoff) ?_
        refine JO.py (Py.load scal22 xe xpick xrow) ?_
        refine JO.py (Py.move xe) ?_
        first | refine JO.py (Py.add ev_const xe (w_u8 (by omega))) ?_ | refine JO.py (Py.add ev_const xe (m_u8 _)) ?_
        refine JO.bslice Tryz.underlying22 elm5 (Evs.cons xe Evs.nil) rfl rfl (by simp [Value.oneCell']) (by decide) ?_; intro b62
        refine JO.app Tryz.underlying22 elm5 xe xe xpick (Src.lit rfl xpick (by rfl) (by simp [Value.oneCell'])) (by simp [u8s]; omega) (by decide) ?_
        intro v63 ho63
        refine JO.py (Py.nil xe) ?_
        refine JO.py (Py.fld fld47_4 xe xoff) ?_
        refine JO.store siz22 xe xe (by first | rfl | assumption) xpick xsize xnorm ?_
        refine JO.nil (JX.blockN (JX.code (JC.region ?_)))
        refine JO.py (Py.move xe) ?_
        refine JO.py (Py.nil xe) ?_
        refine JO.py (Py.fld fld47_3 xe xoff) ?_
        refine JO.py (Py.load scal3 xe xpick xrow) ?_
        refine JO.py (Py.sub xe ev_const (w_i64 (by omega))) ?_
        refine JO.py (Py.nil xe) ?_
        refine JO.py (Py.fld fld47_3 xe xoff) ?_
        refine JO.store siz3 xe xe (by first | rfl | assumption) xpick xsize xnorm ?_
        refine JO.nil ?_
        refine JX.as (A := Row 5 v63 _) (A' := Row 5 v63 (u8s (E.out ++ [(E.cache + cy) % 256] ++ List.replicate (j + 1) ((255 + cy) % 256)))) xpick (row_eq (by rw [List.replicate_succ', ← List.append_assoc]; exact u8s_snoc (by omega))) ?_
        refine JX.loop (j + 1, v63) (by dsimp only; omega) (by dsimp only; omega) xag xpk
      · skip
        have hj' : j = E.held - 1 := by omega
        subst hj'
        refine JC.seq (JC.seq (JC.region ?_))
        refine JO.py (Py.move xe) ?_
        refine JO.py (Py.nil xe) ?_
        refine JO.py (Py.fld fld47_3 xe xoff) ?_
        refine JO.py (Py.load scal3 xe xpick xrow) ?_
        first | refine JO.py (Py.dec (Py.gtr xe ev_const) (by omega)) ?_ | refine JO.py (Py.undec (Py.gtr xe ev_const) (by omega)) ?_ | refine JO.py (Py.gtr xe ev_const) ?_
        refine JO.nil (JX.code ?_)
        first | refine JC.condF xe ?_ | refine JC.condF ((xe).trans (vbool (decide_eq_false (by omega)))) ?_
        refine JC.exit (JX.exit (JX.exit (JX.blockE (JX.code (JC.region ?_)))))
        refine JO.py (Py.move xe) ?_
        refine JO.py (Py.nil xe) ?_
        refine JO.py (Py.fld fld47_3 xe xoff) ?_
        refine JO.store siz3 xe ev_const (by first | rfl | assumption) xpick xsize xnorm ?_
        refine JO.nil (JX.code (JC.region ?_))
        refine JO.py (Py.move xe) ?_
        refine JO.py (Py.move xe) ?_
        refine JO.py (Py.nil xe) ?_
        refine JO.py (Py.fld fld47_0 xe xoff) ?_
        refine JO.py (Py.load scal43 xe xpick xrow) ?_
        refine JO.py (Py.shr 24 16777216 xe ev_const rfl (by decide) (by decide) (by decide)) ?_
        first | refine JO.py (Py.conv cnv43_5 xe (w_u8 (by omega))) ?_ | refine JO.py (Py.conv cnv43_5 xe (m_u8 _)) ?_
        refine JO.py (Py.nil xe) ?_
        refine JO.py (Py.fld fld47_2 xe xoff) ?_
        refine JO.store siz5 xe xe (by first | rfl | assumption) xpick xsize xnorm ?_
        refine JO.nil (JX.code (JC.seq (JC.region ?_)))
        refine JO.py (Py.move xe) ?_
        refine JO.py (Py.nil xe) ?_
        refine JO.py (Py.fld fld47_3 xe xoff) ?_
        refine JO.py (Py.load scal3 xe xpick xrow) ?_
        refine JO.py (Py.add xe ev_const (w_i64 (by omega))) ?_
        refine JO.py (Py.nil xe) ?_
        refine JO.py (Py.fld fld47_3 xe xoff) ?_
        refine JO.store siz3 xe xe (by first | rfl | assumption) xpick xsize xnorm ?_
        refine JO.nil (JX.code (JC.region ?_))
        refine JO.py (Py.move xe) ?_
        refine JO.py (Py.move xe) ?_
        refine JO.py (Py.nil xe) ?_
        refine JO.py (Py.fld fld47_0 xe xoff) ?_
        refine JO.py (Py.load scal43 xe xpick xrow) ?_
        refine JO.py (Py.mask 24 16777216 xe ev_const (by decide) (by decide) (by decide) (r_u64 (by omega)) (w_u64 (by omega))) ?_
        first | refine JO.py (Py.shl 8 256 xe ev_const rfl (by decide) (by decide) (w_u64 (by omega))) ?_ | refine JO.py (Py.shl 8 256 xe ev_const rfl (by decide) (by decide) (m_u64 _)) ?_
        refine JO.py (Py.nil xe) ?_
        refine JO.py (Py.fld fld47_0 xe xoff) ?_
        refine JO.store siz43 xe xe (by first | rfl | assumption) xpick xsize xnorm ?_
        refine JO.nil ?_
        refine JX.as (A := Row 5 v _) (A' := Row 5 v (u8s (E.out ++ ((E.cache + E.low / 4294967296) % 256 :: List.replicate (E.held - 1) ((255 + E.low / 4294967296) % 256))))) xpick (row_eq (by rw [hcy]; simp)) ?_
        refine JX.end0 (Or.inr rfl) (()) Tryz.results27 rfl xpk
  · skip
    have hsh : E.shift = { low := E.low % 16777216 * 256, span := E.span, cache := E.cache, held := E.held + 1, out := E.out } := by
      unfold Enc.shift; rw [if_neg hA]
    rw [hsh]
    refine JC.seq (JC.seq (JC.region ?_))
    refine JO.py (Py.move xe) ?_
    refine JO.py (Py.nil xe) ?_
    refine JO.py (Py.fld fld47_0 xe xoff) ?_
    refine JO.py (Py.load scal43 xe xpick xrow) ?_
    first | refine JO.py (Py.conv cnv43_45 xe (w_u32 (by omega))) ?_ | refine JO.py (Py.conv cnv43_45 xe (m_u32 _)) ?_
    first | refine JO.py (Py.dec (Py.lss xe ev_const) (by omega)) ?_ | refine JO.py (Py.undec (Py.lss xe ev_const) (by omega)) ?_ | refine JO.py (Py.lss xe ev_const) ?_
    refine JO.py (Py.move xe) ?_
    first | (refine JO.go rfl (Lk.ev (v := .bool false) xlk rfl) ?_; (refine JO.py (Py.move xe) ?_)) | refine JO.skipS rfl (Lk.ev (v := .bool true) xlk rfl) ?_
    first | (refine JO.go rfl (Lk.ev (v := .bool false) xlk rfl) ?_; (refine JO.py (Py.nil xe) ?_)) | refine JO.skipS rfl (Lk.ev (v := .bool true) xlk rfl) ?_
    first | (refine JO.go rfl (Lk.ev (v := .bool false) xlk rfl) ?_; (refine JO.py (Py.fld fld47_0 xe xoff) ?_)) | refine JO.skipS rfl (Lk.ev (v := .bool true) xlk rfl) ?_
    first | (refine JO.go rfl (Lk.ev (v := .bool false) xlk rfl) ?_; (refine JO.py (Py.load scal43 xe xpick xrow) ?_)) | refine JO.skipS rfl (Lk.ev (v := .bool true) xlk rfl) ?_
    first | (refine JO.go rfl (Lk.ev (v := .bool false) xlk rfl) ?_; (refine JO.py (Py.shr 32 4294967296 xe ev_const rfl (by decide) (by decide) (by decide)) ?_)) | refine JO.skipS rfl (Lk.ev (v := .bool true) xlk rfl) ?_
    first | (refine JO.go rfl (Lk.ev (v := .bool false) xlk rfl) ?_; (first | refine JO.py (Py.dec (Py.neq xe ev_const) (by omega)) ?_ | refine JO.py (Py.undec (Py.neq xe ev_const) (by omega)) ?_ | refine JO.py (Py.neq xe ev_const) ?_)) | refine JO.skipS rfl (Lk.ev (v := .bool true) xlk rfl) ?_
    first | refine JO.py (Py.pickT xe ev_const) ?_ | refine JO.py (Py.pickF xe xe) ?_
    refine JO.nil (JX.code ?_)
    first | refine JC.condF xe ?_ | refine JC.condF ((xe).trans (vbool (decide_eq_false (by omega)))) ?_
    refine JC.skip (JX.code (JC.seq (JC.region ?_)))
    refine JO.py (Py.move xe) ?_
    refine JO.py (Py.nil xe) ?_
    refine JO.py (Py.fld fld47_3 xe xoff) ?_
    refine JO.py (Py.load scal3 xe xpick xrow) ?_
    refine JO.py (Py.add xe ev_const (w_i64 (by omega))) ?_
    refine JO.py (Py.nil xe) ?_
    refine JO.py (Py.fld fld47_3 xe xoff) ?_
    refine JO.store siz3 xe xe (by first | rfl | assumption) xpick xsize xnorm ?_
    refine JO.nil (JX.code (JC.region ?_))
    refine JO.py (Py.move xe) ?_
    refine JO.py (Py.move xe) ?_
    refine JO.py (Py.nil xe) ?_
    refine JO.py (Py.fld fld47_0 xe xoff) ?_
    refine JO.py (Py.load scal43 xe xpick xrow) ?_
    refine JO.py (Py.mask 24 16777216 xe ev_const (by decide) (by decide) (by decide) (r_u64 (by omega)) (w_u64 (by omega))) ?_
    first | refine JO.py (Py.shl 8 256 xe ev_const rfl (by decide) (by decide) (w_u64 (by omega))) ?_ | refine JO.py (Py.shl 8 256 xe ev_const rfl (by decide) (by decide) (m_u64 _)) ?_
    refine JO.py (Py.nil xe) ?_
    refine JO.py (Py.fld fld47_0 xe xoff) ?_
    refine JO.store siz43 xe xe (by first | rfl | assumption) xpick xsize xnorm ?_
    refine JO.nil ?_
    refine JX.end0 (Or.inr rfl) (()) Tryz.results27 rfl xpk
end Go.Proofs.YtfpepghmbeoanaaGreatDoor
end

section
open Go Go.RowKit
namespace Go.Proofs.YtfpepghmbeoanaaGreatDoor
open Lz
abbrev vu16 (x : Nat) : Value := .int .u16 (x : Int)
/-- A row of chances. -/
def chs (f : Nat → Nat) (n : Nat) : Array Value := Array.ofFn (n := n) fun i => vu16 (f i.val)
def updR (f : Nat → Nat) (q : Nat) (b : Bool) : Nat → Nat := fun j => if j = q then updP (f q) b else f j
theorem chs_size (f : Nat → Nat) (n : Nat) : (chs f n).size = n := by simp [chs]
theorem chs_get {f : Nat → Nat} {n q : Nat} (h : q < n) : (chs f n)[q]? = some (vu16 (f q)) := by simp [chs, h]
theorem chs_set (f : Nat → Nat) (n q : Nat) (x : Nat) : (chs f n).setIfInBounds q (vu16 x) = chs (fun j => if j = q then x else f j) n := by
  apply Array.ext_getElem?
  intro i
  simp only [chs, Array.getElem?_setIfInBounds, Array.getElem?_ofFn, Array.size_ofFn]
  by_cases h : q = i
  · subst h; simp
  · have h' : ¬ i = q := fun e => h e.symm
    simp [h, h']
/-- In order, and k events may come. -/
structure Enc.Ok (E : Enc) (k : Nat) : Prop where
  inv : E.Inv E.span
  lo : 16777216 ≤ E.span
  hi : E.span < 4294967296
  cnt : E.cnt + k ≤ 1000000000
theorem Enc.Ok.ev {E : Enc} {k : Nat} (h : Enc.Ok E (k + 1)) {M : PM} (hM : PMok M) (e : Ev) : Enc.Ok (E.ev M e) k := by
  obtain ⟨_, b, c, _, f, g⟩ := Enc.ev_spec hM h.inv h.lo h.hi e
  refine ⟨c, f, g, ?_⟩
  have : evK M E.span e ≤ 1 := by unfold evK; split <;> omega
  have := h.cnt
  omega
theorem Enc.Ok.evs {l : List Ev} : ∀ {E : Enc} {k : Nat} (_ : Enc.Ok E (l.length + k)) {M : PM} (_ : PMok M), Enc.Ok (Enc.evs M E l) k := by
  induction l with
  | nil => intro E k h M _; exact (by simpa using h : Enc.Ok E k)
  | cons e l ih =>
    intro E k h M hM
    exact ih (Enc.Ok.ev (by rwa [List.length_cons, Nat.add_right_comm] at h) hM e) (evM_ok hM e)
theorem Enc.Ok.mono {E : Enc} {k k' : Nat} (h : Enc.Ok E k) (hk : k' ≤ k) : Enc.Ok E k' := ⟨h.inv, h.lo, h.hi, by have := h.cnt; omega⟩

theorem chs_upd {f : Nat → Nat} {n q : Nat} {b : Bool} {x : Int} (h : x = (updP (f q) b : Nat)) : (chs f n).setIfInBounds q (.int .u16 x) = chs (updR f q b) n := by
  subst h; exact chs_set f n q _

theorem shift_span (E : Enc) : E.shift.span = E.span := by unfold Enc.shift; split <;> rfl

set_option maxRecDepth 100000 in
theorem bit_con (G : Gst) (g p q n : Nat) (E : Enc) (f : Nat → Nat) (b : Bool) (bi : Int) (hb : bi = (b.toNat : Int)) (hE : Enc.Ok E 1) (hq : q < n) (hp : 31 ≤ f q ∧ f q ≤ 2017) :
    Con Tryz.prog G 21 #[.pointer (some ⟨g, 0, none⟩), .pointer (some ⟨p, q, none⟩), .int .i64 bi] [CoderA g E, cel p 61 (chs f n)] (fun _ : Unit => .tuple #[]) (fun _ => [CoderA g (E.bit (f q) b), cel p 61 (chs (updR f q b) n)]) := by
  have hm : E.span / 2048 * 31 ≤ E.span / 2048 * f q ∧ E.span / 2048 * f q ≤ E.span / 2048 * 2017 := ⟨Nat.mul_le_mul_left _ hp.1, Nat.mul_le_mul_left _ hp.2⟩
  have hlo := hE.lo
  have hhi := hE.hi
  have hlow := hE.inv.low
  have hcnt := hE.cnt
  have hheld := hE.inv.held
  have hcache := hE.inv.cache
  have hget := chs_get (f := f) hq
  have hq' : q < (chs f n).size := by rw [chs_size]; exact hq
  obtain ⟨bd, hbd⟩ : ∃ bd, E.span / 2048 * f q = bd := ⟨_, rfl⟩
  obtain ⟨pr, hpr⟩ : ∃ pr, f q = pr := ⟨_, rfl⟩
  have hbit : E.bit (f q) b = (if b then { E with low := E.low + bd, span := E.span - bd } else { E with span := bd } : Enc).norm := by
    unfold Enc.bit Enc.pre; rw [hbd]
  have hupd : ∀ x : Int, x = (updP pr b : Nat) → (chs f n).setIfInBounds q (.int .u16 x) = chs (updR f q b) n := fun x hx => chs_upd (by rw [hpr]; exact hx)
  rw [hbit]
  rw [hbd] at hm
  rw [hpr] at hget hp hbd
  have hbi : (E.span : Int) / 2048 * (pr : Int) = bd := by rw [← hbd]; simp
  clear hbit hbd hE
  cases b
  all_goals
    simp only [Bool.toNat_false, Bool.toNat_true, Bool.false_eq_true, if_true, if_false] at hb ⊢
    simp only [updP, Bool.false_eq_true, if_true, if_false] at hupd
    subst hb
  · skip
    refine Con.intro Tryz.func21 rfl (by kernel_rfl) Tryz.ntmps21 (Nat.le_of_ble_eq_true rfl) ?_
    intro F
    show JC _ _ _ _ _ _ [(0, _), (1, _), (2, _)] _ [_, _, _]
    refine JC.open xpick ?_
    rintro sl
    show JC _ _ _ _ _ _ _ _ (_ :: _ :: _ :: _)
    refine JC.seq ?_
    refine JC.regionD mixed (by kernel_rfl) ?_
    refine JD.py (Py.move xe) ?_
    refine JD.py (Py.nil xe) ?_
    refine JD.py (Py.fld fld47_1 xe xoff) ?_
    refine JD.py (Py.load scal45 xe xpick xrow) ?_
    refine JD.py (Py.shr 11 2048 xe ev_const rfl (by decide) (by decide) (by decide)) ?_
    refine JD.py (Py.move xe) ?_
    refine JD.py (Py.nil xe) ?_
    refine JD.py (Py.load scal61 xe xpick xrow) ?_
    first | refine JD.py (Py.conv cnv61_45 xe (w_u32 (by omega))) ?_ | refine JD.py (Py.conv cnv61_45 xe (m_u32 _)) ?_
    first | refine JD.py (Py.mul xe xe (w_u32 (by omega))) ?_ | refine JD.py (Py.mul xe xe (m_u32 _)) ?_
    refine JD.py (Py.assign xe) ?_
    refine JD.nilN (JX.code (JC.seq (JC.seq (JC.region ?_))))
    refine JO.py (Py.move xe) ?_
    first | refine JO.py (Py.dec (Py.eql xe ev_const) (by omega)) ?_ | refine JO.py (Py.undec (Py.eql xe ev_const) (by omega)) ?_ | refine JO.py (Py.eql xe ev_const) ?_
    refine JO.nil (JX.code ?_)
    first | refine JC.condT xe ?_ | refine JC.condT ((xe).trans (vbool (decide_eq_true (by omega)))) ?_
    refine JC.seq (JC.region ?_)
    refine JO.py (Py.move xe) ?_
    refine JO.py (Py.move xe) ?_
    refine JO.py (Py.nil xe) ?_
    refine JO.py (Py.fld fld47_1 xe xoff) ?_
    refine JO.store siz45 xe xe (by first | rfl | assumption) xpick xsize xnorm ?_
    refine JO.nil (JX.code ?_)
    refine JC.regionM [(0, true), (1, true), (2, true), (3, true), (4, true), (5, true), (6, true), (7, true), (8, true), (9, true), (10, false)] mixed (by kernel_rfl) ?_
    refine JM.py Ao0 ⟨fun _ => Py.move xe⟩ ?_
    refine JM.py Ao1 ⟨fun _ => Py.nil xe⟩ ?_
    refine JM.ld Ao2 scal61 xe xpick xrow ?_
    refine JM.py Ao3 ⟨fun _ => Py.move xe⟩ ?_
    refine JM.py Ao4 ⟨fun _ => Py.nil xe⟩ ?_
    refine JM.ld Ao5 scal61 xe xpick xrow ?_
    first | refine JM.py Ao6 ⟨fun _ => Py.sub ev_const xe (w_u16 (by omega))⟩ ?_ | refine JM.py Ao6 ⟨fun _ => Py.sub ev_const xe (m_u16 _)⟩ ?_
    refine JM.py Ao7 ⟨fun _ => Py.shr 5 32 xe ev_const rfl (by decide) (by decide) (by decide)⟩ ?_
    first | refine JM.py Ao8 ⟨fun _ => Py.add xe xe (w_u16 (by omega))⟩ ?_ | refine JM.py Ao8 ⟨fun _ => Py.add xe xe (m_u16 _)⟩ ?_
    refine JM.py Ao9 ⟨fun _ => Py.nil xe⟩ ?_
    refine JM.eff Ao10 ?_
    refine JO.store siz61 xe xe (by first | rfl | assumption) xpick xsize xnorm ?_
    refine JO.nil ?_
    refine JX.mix (Kept.drop (Forced.step (by kernel_rfl)) (Kept.drop (Forced.step (by kernel_rfl)) Kept.nil)) ?_
    refine JM.nil (JX.code (JC.block ?_))
    refine JC.as (A := cel p 61 _) (A' := cel p 61 (chs (updR f q false) n)) xpick (cel_eq (hupd _ (by omega))) ?_
    unfold Enc.norm
    by_cases hn : bd < 16777216
    · skip
      rw [if_pos hn]
      have hs2 := shift_span { E with span := bd * 256 }
      dsimp only at hs2
      refine JC.unroll 1 ?_
      refine JC.seq (JC.seq (JC.region ?_))
      refine JO.py (Py.move xe) ?_
      refine JO.py (Py.nil xe) ?_
      refine JO.py (Py.fld fld47_1 xe xoff) ?_
      refine JO.py (Py.load scal45 xe xpick xrow) ?_
      first | refine JO.py (Py.dec (Py.lss xe ev_const) (by omega)) ?_ | refine JO.py (Py.undec (Py.lss xe ev_const) (by omega)) ?_ | refine JO.py (Py.lss xe ev_const) ?_
      refine JO.nil (JX.code ?_)
      first | refine JC.condT xe ?_ | refine JC.condT ((xe).trans (vbool (decide_eq_true (by omega)))) ?_
      refine JC.skip (JX.code (JC.block (JC.seq (JC.region ?_))))
      refine JO.py (Py.move xe) ?_
      refine JO.py (Py.nil xe) ?_
      refine JO.py (Py.fld fld47_1 xe xoff) ?_
      refine JO.py (Py.load scal45 xe xpick xrow) ?_
      first | refine JO.py (Py.shl 8 256 xe ev_const rfl (by decide) (by decide) (w_u32 (by omega))) ?_ | refine JO.py (Py.shl 8 256 xe ev_const rfl (by decide) (by decide) (m_u32 _)) ?_
      refine JO.py (Py.nil xe) ?_
      refine JO.py (Py.fld fld47_1 xe xoff) ?_
      refine JO.store siz45 xe xe (by first | rfl | assumption) xpick xsize xnorm ?_
      refine JO.nil (JX.code (JC.region ?_))
      refine JO.py (Py.move xe) ?_
      refine JO.call (Evs.cons xe Evs.nil) (shift_con G g { E with span := bd * 256 } hheld (by dsimp only; omega) hcache (by unfold Enc.cnt at hcnt ⊢; dsimp only; omega)) xpk ?_
      rintro _
      show JO _ _ _ _ _ _ _ ((72, _) :: _) _ (_ :: _ :: _)
      refine JO.open xpick ?_
      rintro sl2
      show JO _ _ _ _ _ _ _ _ _ (_ :: _ :: _ :: _)
      refine JO.nil (JX.blockN (JX.again (JC.seq (JC.seq (JC.region ?_)))))
      refine JO.py (Py.move xe) ?_
      refine JO.py (Py.nil xe) ?_
      refine JO.py (Py.fld fld47_1 xe xoff) ?_
      refine JO.py (Py.load scal45 xe xpick xrow) ?_
      first | refine JO.py (Py.dec (Py.lss xe ev_const) (by omega)) ?_ | refine JO.py (Py.undec (Py.lss xe ev_const) (by omega)) ?_ | refine JO.py (Py.lss xe ev_const) ?_
      refine JO.nil (JX.code ?_)
      first | refine JC.condF xe ?_ | refine JC.condF ((xe).trans (vbool (decide_eq_false (by omega)))) ?_
      refine JC.exit (JX.exit (JX.exit (JX.blockE ?_)))
      refine JX.end0 (Or.inr rfl) (()) Tryz.results21 rfl xpk
    · skip
      rw [if_neg hn]
      refine JC.unroll 0 ?_
      refine JC.seq (JC.seq (JC.region ?_))
      refine JO.py (Py.move xe) ?_
      refine JO.py (Py.nil xe) ?_
      refine JO.py (Py.fld fld47_1 xe xoff) ?_
      refine JO.py (Py.load scal45 xe xpick xrow) ?_
      first | refine JO.py (Py.dec (Py.lss xe ev_const) (by omega)) ?_ | refine JO.py (Py.undec (Py.lss xe ev_const) (by omega)) ?_ | refine JO.py (Py.lss xe ev_const) ?_
      refine JO.nil (JX.code ?_)
      first | refine JC.condF xe ?_ | refine JC.condF ((xe).trans (vbool (decide_eq_false (by omega)))) ?_
      refine JC.exit (JX.exit (JX.exit (JX.blockE ?_)))
      refine JX.end0 (Or.inr rfl) (()) Tryz.results21 rfl xpk
  · skip
    refine Con.intro Tryz.func21 rfl (by kernel_rfl) Tryz.ntmps21 (Nat.le_of_ble_eq_true rfl) ?_
    intro F
    show JC _ _ _ _ _ _ [(0, _), (1, _), (2, _)] _ [_, _, _]
    refine JC.open xpick ?_
    rintro sl
    show JC _ _ _ _ _ _ _ _ (_ :: _ :: _ :: _)
    refine JC.seq ?_
    refine JC.regionD mixed (by kernel_rfl) ?_
    refine JD.py (Py.move xe) ?_
    refine JD.py (Py.nil xe) ?_
    refine JD.py (Py.fld fld47_1 xe xoff) ?_
    refine JD.py (Py.load scal45 xe xpick xrow) ?_
    refine JD.py (Py.shr 11 2048 xe ev_const rfl (by decide) (by decide) (by decide)) ?_
    refine JD.py (Py.move xe) ?_
    refine JD.py (Py.nil xe) ?_
    refine JD.py (Py.load scal61 xe xpick xrow) ?_
    first | refine JD.py (Py.conv cnv61_45 xe (w_u32 (by omega))) ?_ | refine JD.py (Py.conv cnv61_45 xe (m_u32 _)) ?_
    first | refine JD.py (Py.mul xe xe (w_u32 (by omega))) ?_ | refine JD.py (Py.mul xe xe (m_u32 _)) ?_
    refine JD.py (Py.assign xe) ?_
    refine JD.nilN (JX.code (JC.seq (JC.seq (JC.region ?_))))
    refine JO.py (Py.move xe) ?_
    first | refine JO.py (Py.dec (Py.eql xe ev_const) (by omega)) ?_ | refine JO.py (Py.undec (Py.eql xe ev_const) (by omega)) ?_ | refine JO.py (Py.eql xe ev_const) ?_
    refine JO.nil (JX.code ?_)
    first | refine JC.condF xe ?_ | refine JC.condF ((xe).trans (vbool (decide_eq_false (by omega)))) ?_
    refine JC.seq (JC.region ?_)
    refine JO.py (Py.move xe) ?_
    refine JO.py (Py.nil xe) ?_
    refine JO.py (Py.fld fld47_0 xe xoff) ?_
    refine JO.py (Py.load scal43 xe xpick xrow) ?_
    refine JO.py (Py.move xe) ?_
    first | refine JO.py (Py.conv cnv45_43 xe (w_u64 (by omega))) ?_ | refine JO.py (Py.conv cnv45_43 xe (m_u64 _)) ?_
    first | refine JO.py (Py.add xe xe (w_u64 (by omega))) ?_ | refine JO.py (Py.add xe xe (m_u64 _)) ?_
    refine JO.py (Py.nil xe) ?_
    refine JO.py (Py.fld fld47_0 xe xoff) ?_
    refine JO.store siz43 xe xe (by first | rfl | assumption) xpick xsize xnorm ?_
    refine JO.nil (JX.code (JC.seq (JC.region ?_)))
    refine JO.py (Py.move xe) ?_
    refine JO.py (Py.nil xe) ?_
    refine JO.py (Py.fld fld47_1 xe xoff) ?_
    refine JO.py (Py.load scal45 xe xpick xrow) ?_
    refine JO.py (Py.move xe) ?_
    first | refine JO.py (Py.sub xe xe (w_u32 (by omega))) ?_ | refine JO.py (Py.sub xe xe (m_u32 _)) ?_
    refine JO.py (Py.nil xe) ?_
    refine JO.py (Py.fld fld47_1 xe xoff) ?_
    refine JO.store siz45 xe xe (by first | rfl | assumption) xpick xsize xnorm ?_
    refine JO.nil (JX.code ?_)
    refine JC.regionM [(0, true), (1, true), (2, true), (3, true), (4, true), (5, true), (6, true), (7, true), (8, true), (9, false)] mixed (by kernel_rfl) ?_
    refine JM.py Ao0 ⟨fun _ => Py.move xe⟩ ?_
    refine JM.py Ao1 ⟨fun _ => Py.nil xe⟩ ?_
    refine JM.ld Ao2 scal61 xe xpick xrow ?_
    refine JM.py Ao3 ⟨fun _ => Py.move xe⟩ ?_
    refine JM.py Ao4 ⟨fun _ => Py.nil xe⟩ ?_
    refine JM.ld Ao5 scal61 xe xpick xrow ?_
    refine JM.py Ao6 ⟨fun _ => Py.shr 5 32 xe ev_const rfl (by decide) (by decide) (by decide)⟩ ?_
    first | refine JM.py Ao7 ⟨fun _ => Py.sub xe xe (w_u16 (by omega))⟩ ?_ | refine JM.py Ao7 ⟨fun _ => Py.sub xe xe (m_u16 _)⟩ ?_
    refine JM.py Ao8 ⟨fun _ => Py.nil xe⟩ ?_
    refine JM.eff Ao9 ?_
    refine JO.store siz61 xe xe (by first | rfl | assumption) xpick xsize xnorm ?_
    refine JO.nil ?_
    refine JX.mix (Kept.drop (Forced.step (by kernel_rfl)) (Kept.drop (Forced.step (by kernel_rfl)) Kept.nil)) ?_
    refine JM.nil (JX.code (JC.block ?_))
    refine JC.as (A := cel p 61 _) (A' := cel p 61 (chs (updR f q true) n)) xpick (cel_eq (hupd _ (by omega))) ?_
    unfold Enc.norm
    by_cases hn : E.span - bd < 16777216
    · skip
      rw [if_pos hn]
      have hs2 := shift_span { E with low := E.low + bd, span := (E.span - bd) * 256 }
      dsimp only at hs2
      refine JC.unroll 1 ?_
      refine JC.seq (JC.seq (JC.region ?_))
      refine JO.py (Py.move xe) ?_
      refine JO.py (Py.nil xe) ?_
      refine JO.py (Py.fld fld47_1 xe xoff) ?_
      refine JO.py (Py.load scal45 xe xpick xrow) ?_
      first | refine JO.py (Py.dec (Py.lss xe ev_const) (by omega)) ?_ | refine JO.py (Py.undec (Py.lss xe ev_const) (by omega)) ?_ | refine JO.py (Py.lss xe ev_const) ?_
      refine JO.nil (JX.code ?_)
      first | refine JC.condT xe ?_ | refine JC.condT ((xe).trans (vbool (decide_eq_true (by omega)))) ?_
      refine JC.skip (JX.code (JC.block (JC.seq (JC.region ?_))))
      refine JO.py (Py.move xe) ?_
      refine JO.py (Py.nil xe) ?_
      refine JO.py (Py.fld fld47_1 xe xoff) ?_
      refine JO.py (Py.load scal45 xe xpick xrow) ?_
      first | refine JO.py (Py.shl 8 256 xe ev_const rfl (by decide) (by decide) (w_u32 (by omega))) ?_ | refine JO.py (Py.shl 8 256 xe ev_const rfl (by decide) (by decide) (m_u32 _)) ?_
      refine JO.py (Py.nil xe) ?_
      refine JO.py (Py.fld fld47_1 xe xoff) ?_
      refine JO.store siz45 xe xe (by first | rfl | assumption) xpick xsize xnorm ?_
      refine JO.nil (JX.code (JC.region ?_))
      refine JO.py (Py.move xe) ?_
      refine JO.call (Evs.cons xe Evs.nil) (shift_con G g { E with low := E.low + bd, span := (E.span - bd) * 256 } hheld (by dsimp only; omega) hcache (by unfold Enc.cnt at hcnt ⊢; dsimp only; omega)) xpk ?_
      rintro _
      show JO _ _ _ _ _ _ _ ((72, _) :: _) _ (_ :: _ :: _)
      refine JO.open xpick ?_
      rintro sl2
      show JO _ _ _ _ _ _ _ _ _ (_ :: _ :: _ :: _)
      refine JO.nil (JX.blockN (JX.again (JC.seq (JC.seq (JC.region ?_)))))
      refine JO.py (Py.move xe) ?_
      refine JO.py (Py.nil xe) ?_
      refine JO.py (Py.fld fld47_1 xe xoff) ?_
      refine JO.py (Py.load scal45 xe xpick xrow) ?_
      first | refine JO.py (Py.dec (Py.lss xe ev_const) (by omega)) ?_ | refine JO.py (Py.undec (Py.lss xe ev_const) (by omega)) ?_ | refine JO.py (Py.lss xe ev_const) ?_
      refine JO.nil (JX.code ?_)
      first | refine JC.condF xe ?_ | refine JC.condF ((xe).trans (vbool (decide_eq_false (by omega)))) ?_
      refine JC.exit (JX.exit (JX.exit (JX.blockE ?_)))
      refine JX.end0 (Or.inr rfl) (()) Tryz.results21 rfl xpk
    · skip
      rw [if_neg hn]
      refine JC.unroll 0 ?_
      refine JC.seq (JC.seq (JC.region ?_))
      refine JO.py (Py.move xe) ?_
      refine JO.py (Py.nil xe) ?_
      refine JO.py (Py.fld fld47_1 xe xoff) ?_
      refine JO.py (Py.load scal45 xe xpick xrow) ?_
      first | refine JO.py (Py.dec (Py.lss xe ev_const) (by omega)) ?_ | refine JO.py (Py.undec (Py.lss xe ev_const) (by omega)) ?_ | refine JO.py (Py.lss xe ev_const) ?_
      refine JO.nil (JX.code ?_)
      first | refine JC.condF xe ?_ | refine JC.condF ((xe).trans (vbool (decide_eq_false (by omega)))) ?_
      refine JC.exit (JX.exit (JX.exit (JX.blockE ?_)))
      refine JX.end0 (Or.inr rfl) (()) Tryz.results21 rfl xpk
end Go.Proofs.YtfpepghmbeoanaaGreatDoor
end

section
open Go Go.RowKit
namespace Go.Proofs.YtfpepghmbeoanaaGreatDoor
open Lz
theorem stars_flat {l r : List Asn} {h : Hp} : stars (stars l :: r) h ↔ stars (l ++ r) h := by
  rw [stars_append]; exact Iff.rfl
/-- Where the rows of chances lie. -/
structure Tab where
  ids : List Nat
  blk : Nat → Nat
  len : Nat → Nat
def Tab.row (T : Tab) (M : PM) (id : Nat) : Asn := cel (T.blk id) 61 (chs (M id) (T.len id))
def Chances (T : Tab) (M : PM) : Asn := stars (T.ids.map (T.row M))
theorem pick_map {F : Nat → Asn} {id : Nat} : ∀ {l : List Nat}, id ∈ l → Pick (F id) (l.map F) ((l.erase id).map F)
  | x :: l, h => by
    by_cases hx : x = id
    · subst hx; simp; exact .here
    · have : id ∈ l := by simpa [Ne.symm hx] using h
      rw [List.erase_cons_tail (by simpa using hx)]
      exact .there (pick_map this)
theorem but_eq {F F' : Nat → Asn} {id : Nat} {l : List Nat} (hnd : l.Nodup) (h : ∀ j, j ≠ id → F j = F' j) : (l.erase id).map F = (l.erase id).map F' := by
  apply List.map_congr_left
  intro j hj
  refine h j fun e => ?_
  subst e
  exact (List.Nodup.not_mem_erase hnd) hj
/-- A row is lent. -/
theorem lend {G : Gst} {w : World} {T : Tab} {M : PM} {r : List Asn} {id : Nat} (hid : id ∈ T.ids) (hw : Sat G w (Chances T M :: r)) : Sat G w (T.row M id :: ((T.ids.erase id).map (T.row M) ++ r)) :=
  hw.of fun hs => by
    have h1 := stars_flat.1 hs
    rw [stars_append] at h1
    obtain ⟨h1, h2, hd, he, ha, hb⟩ := h1
    have := (pick_map (F := T.row M) hid).to ha
    exact (stars_append (a := T.row M id :: (T.ids.erase id).map (T.row M)) (b := r)).2 ⟨h1, h2, hd, he, this, hb⟩
theorem unlend {G : Gst} {w : World} {T : Tab} {M M' : PM} {r : List Asn} {id : Nat} (hid : id ∈ T.ids) (hnd : T.ids.Nodup) (hM : ∀ j, j ≠ id → M j = M' j) (hw : Sat G w (T.row M' id :: ((T.ids.erase id).map (T.row M) ++ r))) : Sat G w (Chances T M' :: r) :=
  hw.of fun hs => by
    refine stars_flat.2 ?_
    rw [but_eq (F := T.row M) (F' := T.row M') hnd (fun j hj => by unfold Tab.row; rw [hM j hj])] at hs
    obtain ⟨h1, h2, hd, he, ha, hb⟩ := (stars_append (a := T.row M' id :: (T.ids.erase id).map (T.row M')) (b := r)).1 hs
    exact stars_append.2 ⟨h1, h2, hd, he, (pick_map (F := T.row M') hid).back ha, hb⟩

/-- The coder and its chances. -/
structure Tab.Ok (T : Tab) : Prop where
  nodup : T.ids.Nodup
theorem bitM {G : Gst} {g : Nat} {T : Tab} (hT : T.Ok) {M : PM} (hM : PMok M) {E : Enc} (hE : Enc.Ok E 1) {id ix : Nat} (hid : id ∈ T.ids) (hq : ix < T.len id) (b : Bool) {bi : Int} (hb : bi = (b.toNat : Int)) :
    Con Tryz.prog G 21 #[.pointer (some ⟨g, 0, none⟩), .pointer (some ⟨T.blk id, ix, none⟩), .int .i64 bi] [CoderA g E, Chances T M] (fun _ : Unit => .tuple #[])
      (fun _ => [CoderA g (E.ev M (.bit id ix b)), Chances T (evM M (.bit id ix b))]) := by
  refine Con.conseq (bit_con G g (T.blk id) ix (T.len id) E (M id) b bi hb hE hq (hM id ix)) fun F w hw => ?_
  have h1 := lend hid (hw.pick (.there .here))
  refine ⟨stars ((T.ids.erase id).map (T.row M) ++ [F]), ?_, ?_⟩
  · have h2 : Sat G w ([CoderA g E, T.row M id] ++ ((T.ids.erase id).map (T.row M) ++ [F])) := by
      refine h1.of fun hs => ?_
      refine Pick.to (A := CoderA g E) (l := T.row M id :: ((T.ids.erase id).map (T.row M) ++ [CoderA g E, F])) (l' := T.row M id :: ((T.ids.erase id).map (T.row M) ++ [F])) (.there ?_) hs
      generalize (T.ids.erase id).map (T.row M) = l
      induction l with
      | nil => exact .here
      | cons x l ih => exact .there ih
    exact h2.of fun hs => stars_pack.1 hs
  · rintro ⟨⟩ w' hw'
    refine ⟨(), rfl, ?_⟩
    have h2 := hw'.of fun hs => stars_pack.2 hs
    have hrow : cel (T.blk id) 61 (chs (updR (M id) ix b) (T.len id)) = T.row (evM M (.bit id ix b)) id := by
      unfold Tab.row
      congr 2
      funext j
      simp [evM, upd, updR]
    rw [hrow] at h2
    have h3 : Sat G w' (T.row (evM M (.bit id ix b)) id :: ((T.ids.erase id).map (T.row M) ++ [CoderA g (E.bit (M id ix) b), F])) := by
      refine h2.of fun hs => ?_
      refine Pick.back (A := CoderA g (E.bit (M id ix) b)) (l := T.row (evM M (.bit id ix b)) id :: ((T.ids.erase id).map (T.row M) ++ [CoderA g (E.bit (M id ix) b), F])) (l' := T.row (evM M (.bit id ix b)) id :: ((T.ids.erase id).map (T.row M) ++ [F])) (.there ?_) hs
      generalize (T.ids.erase id).map (T.row M) = l
      induction l with
      | nil => exact .here
      | cons x l ih => exact .there ih
    have h4 := unlend hid hT.nodup (M := M) (fun j hj => by funext k; simp [evM, upd, hj]) h3
    exact h4.unpick (.there .here)
end Go.Proofs.YtfpepghmbeoanaaGreatDoor
end

section
open Go Go.RowKit
namespace Go.Proofs.YtfpepghmbeoanaaGreatDoor
open Lz
def evenEv (v : Nat) : Nat → List Ev
  | 0 => []
  | n + 1 => .even (v.testBit n) :: evenEv v n
def treeEv (id o v : Nat) : Nat → Nat → List Ev
  | 0, _ => []
  | n + 1, m => .bit id (o + m) (v.testBit n) :: treeEv id o v n (2 * m + (v.testBit n).toNat)
def backEv (id o v : Nat) : Nat → Nat → Nat → List Ev
  | 0, _, _ => []
  | k + 1, i, m => .bit id (o + m) (v.testBit i) :: backEv id o v k (i + 1) (2 * m + (v.testBit i).toNat)
theorem evenEv_len (v n : Nat) : (evenEv v n).length = n := by induction n with
  | zero => rfl
  | succ n ih => simp [evenEv, ih]
theorem treeEv_len (id o v : Nat) : ∀ n m, (treeEv id o v n m).length = n
  | 0, _ => rfl
  | n + 1, m => by simp [treeEv, treeEv_len id o v n]
theorem backEv_len (id o v : Nat) : ∀ n i m, (backEv id o v n i m).length = n
  | 0, _, _ => rfl
  | n + 1, i, m => by simp [backEv, backEv_len id o v n]
theorem bit_val (v j : Nat) : (v / 2 ^ j % 2 : Nat) = (v.testBit j).toNat := (Nat.toNat_testBit v j).symm
theorem bit_int (v j : Nat) : ((v / 2 ^ j : Nat) : Int) % 2 = ((v.testBit j).toNat : Int) := by rw [← bit_val]; simp

set_option maxRecDepth 100000 in
theorem even_con (G : Gst) (g v n : Nat) (E : Enc) (hE : Enc.Ok E n) (hn : n ≤ 60) (hv : v < 1099511627776) {M : PM} (hM : PMok M) {vi ni : Int} (hvi : vi = (v : Int)) (hni : ni = (n : Int)) :
    Con Tryz.prog G 32 #[.pointer (some ⟨g, 0, none⟩), .int .i64 vi, .int .i64 ni] [CoderA g E] (fun _ : Unit => .tuple #[]) (fun _ => [CoderA g (Enc.evs M E (evenEv v n))]) := by
  subst hvi hni
  refine Con.intro Tryz.func32 rfl (by kernel_rfl) Tryz.ntmps32 (Nat.le_of_ble_eq_true rfl) ?_
  intro F
  show JC _ _ _ _ _ _ [(0, _), (1, _), (2, _)] _ [_, _]
  refine JC.seq (JC.region ?_)
  refine JO.py (Py.move xe) ?_
  refine JO.py (Py.sub xe ev_const (w_i64 (by omega))) ?_
  refine JO.py (Py.assign xe) ?_
  refine JO.nil (JX.code (JC.block ?_))
  refine JC.loop (ι := Nat × Enc) (fun i => i.1 ≤ n ∧ Enc.Ok i.2 i.1 ∧ Enc.evs M i.2 (evenEv v i.1) = Enc.evs M E (evenEv v n)) (fun i => [(0, .pointer (some ⟨g, 0, none⟩)), (1, .int .i64 v), (6, .int .i64 ((i.1 : Int) - 1))]) (fun i => [CoderA g i.2, F]) (fun i => i.1) (n, E) ⟨Nat.le_refl _, hE, rfl⟩ xag xpk ?_
  rintro ⟨k, E1⟩ base' ⟨hk, hE1, hev⟩
  dsimp only at hk hE1 hev
  dsimp only
  rcases k with _ | k
  · skip
    refine JC.seq (JC.seq (JC.region ?_))
    refine JO.py (Py.move xe) ?_
    first | refine JO.py (Py.dec (Py.geq xe ev_const) (by omega)) ?_ | refine JO.py (Py.undec (Py.geq xe ev_const) (by omega)) ?_ | refine JO.py (Py.geq xe ev_const) ?_
    refine JO.nil (JX.code ?_)
    first | refine JC.condF xe ?_ | refine JC.condF ((xe).trans (vbool (decide_eq_false (by omega)))) ?_
    refine JC.exit (JX.exit (JX.exit (JX.blockE ?_)))
    obtain rfl : E1 = _ := hev
    refine JX.end0 (Or.inr rfl) (()) Tryz.results32 rfl xpk
  · skip
    have hlo := hE1.lo
    have hhi := hE1.hi
    have hlow := hE1.inv.low
    have hcnt := hE1.cnt
    have hheld := hE1.inv.held
    have hcache := hE1.inv.cache
    have hdv := Nat.div_le_self v (2 ^ k)
    have hd0 := Int.natCast_nonneg (v / 2 ^ k)
    have hE2 := Enc.Ok.ev hE1 hM (.even (v.testBit k))
    have hpre : Enc.ev M E1 (.even (v.testBit k)) = (if v.testBit k then { E1 with low := E1.low + E1.span / 2, span := E1.span / 2 } else { E1 with span := E1.span / 2 } : Enc).norm := rfl
    have hev' : Enc.evs M (Enc.ev M E1 (.even (v.testBit k))) (evenEv v k) = Enc.evs M E (evenEv v n) := hev
    have hbi := bit_int v k
    cases hb : v.testBit k
    all_goals
      rw [hb] at hpre hE2 hev' hbi
      simp only [if_true, Bool.false_eq_true, if_false] at hpre
      unfold Enc.norm at hpre
      dsimp only at hpre
      refine JC.open xpick ?_
      rintro sl
      show JC _ _ _ _ _ _ _ _ (_ :: _ :: _ :: _)
      refine JC.seq (JC.seq (JC.region ?_))
      refine JO.py (Py.move xe) ?_
      first | refine JO.py (Py.dec (Py.geq xe ev_const) (by omega)) ?_ | refine JO.py (Py.undec (Py.geq xe ev_const) (by omega)) ?_ | refine JO.py (Py.geq xe ev_const) ?_
      refine JO.nil (JX.code ?_)
      first | refine JC.condT xe ?_ | refine JC.condT ((xe).trans (vbool (decide_eq_true (by omega)))) ?_
      refine JC.skip (JX.code (JC.seq (JC.block (JC.seq (JC.region ?_)))))
      refine JO.py (Py.move xe) ?_
      refine JO.py (Py.nil xe) ?_
      refine JO.py (Py.fld fld47_1 xe xoff) ?_
      refine JO.py (Py.load scal45 xe xpick xrow) ?_
      refine JO.py (Py.shr 1 2 xe ev_const rfl (by decide) (by decide) (by decide)) ?_
      refine JO.py (Py.nil xe) ?_
      refine JO.py (Py.fld fld47_1 xe xoff) ?_
      refine JO.store siz45 xe xe (by first | rfl | assumption) xpick xsize xnorm ?_
      refine JO.nil (JX.code (JC.seq (JC.seq (JC.region ?_))))
      refine JO.py (Py.move xe) ?_
      refine JO.py (Py.move xe) ?_
      refine JO.py (Py.shrN k xe xe (by omega) (by simp only [IntKind.bits]; omega)) ?_
    · skip
      refine JO.py (Py.to (Py.mask 1 2 xe ev_const (by decide) (by decide) (by decide) (r_i64 (by omega)) (w_i64 (by omega))) (v' := .int .i64 0) (vint hbi)) ?_
      first | refine JO.py (Py.dec (Py.eql xe ev_const) (by omega)) ?_ | refine JO.py (Py.undec (Py.eql xe ev_const) (by omega)) ?_ | refine JO.py (Py.eql xe ev_const) ?_
      refine JO.nil (JX.code ?_)
      first | refine JC.condF xe ?_ | refine JC.condF ((xe).trans (vbool (decide_eq_false (by omega)))) ?_
      refine JC.skip (JX.code (JC.block ?_))
      by_cases hsp : E1.span / 2 < 16777216
      · skip
        rw [if_pos hsp] at hpre
        have hs2 := shift_span { E1 with span := E1.span / 2 * 256 }
        dsimp only at hs2
        refine JC.unroll 1 ?_
        refine JC.seq (JC.seq (JC.region ?_))
        refine JO.py (Py.move xe) ?_
        refine JO.py (Py.nil xe) ?_
        refine JO.py (Py.fld fld47_1 xe xoff) ?_
        refine JO.py (Py.load scal45 xe xpick xrow) ?_
        first | refine JO.py (Py.dec (Py.lss xe ev_const) (by omega)) ?_ | refine JO.py (Py.undec (Py.lss xe ev_const) (by omega)) ?_ | refine JO.py (Py.lss xe ev_const) ?_
        refine JO.nil (JX.code ?_)
        first | refine JC.condT xe ?_ | refine JC.condT ((xe).trans (vbool (decide_eq_true (by omega)))) ?_
        refine JC.skip (JX.code (JC.block (JC.seq (JC.region ?_))))
        refine JO.py (Py.move xe) ?_
        refine JO.py (Py.nil xe) ?_
        refine JO.py (Py.fld fld47_1 xe xoff) ?_
        refine JO.py (Py.load scal45 xe xpick xrow) ?_
        first | refine JO.py (Py.shl 8 256 xe ev_const rfl (by decide) (by decide) (w_u32 (by omega))) ?_ | refine JO.py (Py.shl 8 256 xe ev_const rfl (by decide) (by decide) (m_u32 _)) ?_
        refine JO.py (Py.nil xe) ?_
        refine JO.py (Py.fld fld47_1 xe xoff) ?_
        refine JO.store siz45 xe xe (by first | rfl | assumption) xpick xsize xnorm ?_
        refine JO.nil (JX.code (JC.region ?_))
        refine JO.py (Py.move xe) ?_
        refine JO.call (Evs.cons xe Evs.nil) (shift_con G g { E1 with span := E1.span / 2 * 256 } hheld (by dsimp only; omega) hcache (by unfold Enc.cnt at hcnt ⊢; dsimp only; omega)) xpk ?_
        rintro _
        show JO _ _ _ _ _ _ _ ((50, _) :: _) _ (_ :: _ :: _)
        refine JO.open xpick ?_
        rintro sl2
        show JO _ _ _ _ _ _ _ _ _ (_ :: _ :: _ :: _)
        refine JO.nil (JX.blockN (JX.again (JC.seq (JC.seq (JC.region ?_)))))
        refine JO.py (Py.move xe) ?_
        refine JO.py (Py.nil xe) ?_
        refine JO.py (Py.fld fld47_1 xe xoff) ?_
        refine JO.py (Py.load scal45 xe xpick xrow) ?_
        first | refine JO.py (Py.dec (Py.lss xe ev_const) (by omega)) ?_ | refine JO.py (Py.undec (Py.lss xe ev_const) (by omega)) ?_ | refine JO.py (Py.lss xe ev_const) ?_
        refine JO.nil (JX.code ?_)
        first | refine JC.condF xe ?_ | refine JC.condF ((xe).trans (vbool (decide_eq_false (by omega)))) ?_
        refine JC.exit (JX.exit (JX.exit (JX.blockE (JX.blockN (JX.code (JC.region ?_))))))
        refine JO.py (Py.move xe) ?_
        refine JO.py (Py.sub xe ev_const (w_i64 (by omega))) ?_
        refine JO.py (Py.assign xe) ?_
        refine JO.nil ?_
        refine JX.loop (k, Enc.ev M E1 (.even false)) ⟨by dsimp only; omega, hE2, hev'⟩ (by dsimp only; omega) xag (by rw [hpre]; (try dsimp only); exact xpicks)
      · skip
        rw [if_neg hsp] at hpre
        refine JC.unroll 0 ?_
        refine JC.seq (JC.seq (JC.region ?_))
        refine JO.py (Py.move xe) ?_
        refine JO.py (Py.nil xe) ?_
        refine JO.py (Py.fld fld47_1 xe xoff) ?_
        refine JO.py (Py.load scal45 xe xpick xrow) ?_
        first | refine JO.py (Py.dec (Py.lss xe ev_const) (by omega)) ?_ | refine JO.py (Py.undec (Py.lss xe ev_const) (by omega)) ?_ | refine JO.py (Py.lss xe ev_const) ?_
        refine JO.nil (JX.code ?_)
        first | refine JC.condF xe ?_ | refine JC.condF ((xe).trans (vbool (decide_eq_false (by omega)))) ?_
        refine JC.exit (JX.exit (JX.exit (JX.blockE (JX.blockN (JX.code (JC.region ?_))))))
        refine JO.py (Py.move xe) ?_
        refine JO.py (Py.sub xe ev_const (w_i64 (by omega))) ?_
        refine JO.py (Py.assign xe) ?_
        refine JO.nil ?_
        refine JX.loop (k, Enc.ev M E1 (.even false)) ⟨by dsimp only; omega, hE2, hev'⟩ (by dsimp only; omega) xag (by rw [hpre]; (try dsimp only); exact xpicks)
    · skip
      refine JO.py (Py.to (Py.mask 1 2 xe ev_const (by decide) (by decide) (by decide) (r_i64 (by omega)) (w_i64 (by omega))) (v' := .int .i64 1) (vint hbi)) ?_
      first | refine JO.py (Py.dec (Py.eql xe ev_const) (by omega)) ?_ | refine JO.py (Py.undec (Py.eql xe ev_const) (by omega)) ?_ | refine JO.py (Py.eql xe ev_const) ?_
      refine JO.nil (JX.code ?_)
      first | refine JC.condT xe ?_ | refine JC.condT ((xe).trans (vbool (decide_eq_true (by omega)))) ?_
      refine JC.regionM [(0, true), (1, true), (2, true), (3, true), (4, true), (5, true), (6, true), (7, true), (8, true), (9, true), (10, true), (11, true), (12, false)] mixed (by kernel_rfl) ?_
      refine JM.py Ao0 ⟨fun _ => Py.move xe⟩ ?_
      refine JM.py Ao1 ⟨fun _ => Py.nil xe⟩ ?_
      refine JM.py Ao2 ⟨fun _ => Py.fld fld47_0 xe xoff⟩ ?_
      refine JM.ld Ao3 scal43 xe xpick xrow ?_
      refine JM.py Ao4 ⟨fun _ => Py.move xe⟩ ?_
      refine JM.py Ao5 ⟨fun _ => Py.nil xe⟩ ?_
      refine JM.py Ao6 ⟨fun _ => Py.fld fld47_1 xe xoff⟩ ?_
      refine JM.ld Ao7 scal45 xe xpick xrow ?_
      first | refine JM.py Ao8 ⟨fun _ => Py.conv cnv45_43 xe (w_u64 (by omega))⟩ ?_ | refine JM.py Ao8 ⟨fun _ => Py.conv cnv45_43 xe (m_u64 _)⟩ ?_
      first | refine JM.py Ao9 ⟨fun _ => Py.add xe xe (w_u64 (by omega))⟩ ?_ | refine JM.py Ao9 ⟨fun _ => Py.add xe xe (m_u64 _)⟩ ?_
      refine JM.py Ao10 ⟨fun _ => Py.nil xe⟩ ?_
      refine JM.py Ao11 ⟨fun _ => Py.fld fld47_0 xe xoff⟩ ?_
      refine JM.eff Ao12 ?_
      refine JO.store siz43 xe xe (by first | rfl | assumption) xpick xsize xnorm ?_
      refine JO.nil ?_
      refine JX.mix (Kept.drop (Forced.step (by kernel_rfl)) (Kept.drop (Forced.step (by kernel_rfl)) Kept.nil)) ?_
      refine JM.nil (JX.code (JC.block ?_))
      by_cases hsp : E1.span / 2 < 16777216
      · skip
        rw [if_pos hsp] at hpre
        have hs2 := shift_span { E1 with low := E1.low + E1.span / 2, span := E1.span / 2 * 256 }
        dsimp only at hs2
        refine JC.unroll 1 ?_
        refine JC.seq (JC.seq (JC.region ?_))
        refine JO.py (Py.move xe) ?_
        refine JO.py (Py.nil xe) ?_
        refine JO.py (Py.fld fld47_1 xe xoff) ?_
        refine JO.py (Py.load scal45 xe xpick xrow) ?_
        first | refine JO.py (Py.dec (Py.lss xe ev_const) (by omega)) ?_ | refine JO.py (Py.undec (Py.lss xe ev_const) (by omega)) ?_ | refine JO.py (Py.lss xe ev_const) ?_
        refine JO.nil (JX.code ?_)
        first | refine JC.condT xe ?_ | refine JC.condT ((xe).trans (vbool (decide_eq_true (by omega)))) ?_
        refine JC.skip (JX.code (JC.block (JC.seq (JC.region ?_))))
        refine JO.py (Py.move xe) ?_
        refine JO.py (Py.nil xe) ?_
        refine JO.py (Py.fld fld47_1 xe xoff) ?_
        refine JO.py (Py.load scal45 xe xpick xrow) ?_
        first | refine JO.py (Py.shl 8 256 xe ev_const rfl (by decide) (by decide) (w_u32 (by omega))) ?_ | refine JO.py (Py.shl 8 256 xe ev_const rfl (by decide) (by decide) (m_u32 _)) ?_
        refine JO.py (Py.nil xe) ?_
        refine JO.py (Py.fld fld47_1 xe xoff) ?_
        refine JO.store siz45 xe xe (by first | rfl | assumption) xpick xsize xnorm ?_
        refine JO.nil (JX.code (JC.region ?_))
        refine JO.py (Py.move xe) ?_
        refine JO.call (Evs.cons xe Evs.nil) (shift_con G g { E1 with low := E1.low + E1.span / 2, span := E1.span / 2 * 256 } hheld (by dsimp only; omega) hcache (by unfold Enc.cnt at hcnt ⊢; dsimp only; omega)) xpk ?_
        rintro _
        show JO _ _ _ _ _ _ _ ((50, _) :: _) _ (_ :: _ :: _)
        refine JO.open xpick ?_
        rintro sl2
        show JO _ _ _ _ _ _ _ _ _ (_ :: _ :: _ :: _)
        refine JO.nil (JX.blockN (JX.again (JC.seq (JC.seq (JC.region ?_)))))
        refine JO.py (Py.move xe) ?_
        refine JO.py (Py.nil xe) ?_
        refine JO.py (Py.fld fld47_1 xe xoff) ?_
        refine JO.py (Py.load scal45 xe xpick xrow) ?_
        first | refine JO.py (Py.dec (Py.lss xe ev_const) (by omega)) ?_ | refine JO.py (Py.undec (Py.lss xe ev_const) (by omega)) ?_ | refine JO.py (Py.lss xe ev_const) ?_
        refine JO.nil (JX.code ?_)
        first | refine JC.condF xe ?_ | refine JC.condF ((xe).trans (vbool (decide_eq_false (by omega)))) ?_
        refine JC.exit (JX.exit (JX.exit (JX.blockE (JX.blockN (JX.code (JC.region ?_))))))
        refine JO.py (Py.move xe) ?_
        refine JO.py (Py.sub xe ev_const (w_i64 (by omega))) ?_
        refine JO.py (Py.assign xe) ?_
        refine JO.nil ?_
        refine JX.loop (k, Enc.ev M E1 (.even true)) ⟨by dsimp only; omega, hE2, hev'⟩ (by dsimp only; omega) xag (by rw [hpre]; (try dsimp only); exact xpicks)
      · skip
        rw [if_neg hsp] at hpre
        refine JC.unroll 0 ?_
        refine JC.seq (JC.seq (JC.region ?_))
        refine JO.py (Py.move xe) ?_
        refine JO.py (Py.nil xe) ?_
        refine JO.py (Py.fld fld47_1 xe xoff) ?_
        refine JO.py (Py.load scal45 xe xpick xrow) ?_
        first | refine JO.py (Py.dec (Py.lss xe ev_const) (by omega)) ?_ | refine JO.py (Py.undec (Py.lss xe ev_const) (by omega)) ?_ | refine JO.py (Py.lss xe ev_const) ?_
        refine JO.nil (JX.code ?_)
        first | refine JC.condF xe ?_ | refine JC.condF ((xe).trans (vbool (decide_eq_false (by omega)))) ?_
        refine JC.exit (JX.exit (JX.exit (JX.blockE (JX.blockN (JX.code (JC.region ?_))))))
        refine JO.py (Py.move xe) ?_
        refine JO.py (Py.sub xe ev_const (w_i64 (by omega))) ?_
        refine JO.py (Py.assign xe) ?_
        refine JO.nil ?_
        refine JX.loop (k, Enc.ev M E1 (.even true)) ⟨by dsimp only; omega, hE2, hev'⟩ (by dsimp only; omega) xag (by rw [hpre]; (try dsimp only); exact xpicks)

set_option maxRecDepth 100000 in
theorem tree_con (G : Gst) (g : Nat) (T : Tab) (hT : T.Ok) (M : PM) (hM : PMok M) (E : Enc) (id o v n len cap : Nat) (hE : Enc.Ok E n) (hn : n ≤ 60) (hv : v < 1099511627776) (hid : id ∈ T.ids)
    (hl : o + 2 ^ n ≤ T.len id) (hl2 : 2 ^ n ≤ len) (hl3 : len ≤ 1000000) {vi ni : Int} (hvi : vi = (v : Int)) (hni : ni = (n : Int)) :
    Con Tryz.prog G 30 #[.pointer (some ⟨g, 0, none⟩), .slice (some ⟨T.blk id, o, none⟩) len cap, .int .i64 vi, .int .i64 ni] [CoderA g E, Chances T M] (fun _ : Unit => .tuple #[])
      (fun _ => [CoderA g (Enc.evs M E (treeEv id o v n 1)), Chances T (evsM M (treeEv id o v n 1))]) := by
  subst hvi hni
  refine Con.intro Tryz.func30 rfl (by kernel_rfl) Tryz.ntmps30 (Nat.le_of_ble_eq_true rfl) ?_
  intro F
  show JC _ _ _ _ _ _ [(0, _), (1, _), (2, _), (3, _)] _ [_, _, _]
  refine JC.seq (JC.region ?_)
  refine JO.py (Py.assign ev_const) ?_
  refine JO.nil (JX.code (JC.seq (JC.region ?_)))
  refine JO.py (Py.move xe) ?_
  refine JO.py (Py.sub xe ev_const (w_i64 (by omega))) ?_
  refine JO.py (Py.assign xe) ?_
  refine JO.nil (JX.code (JC.block ?_))
  refine JC.loop (ι := Nat × Nat × PM × Enc) (fun i => i.1 ≤ n ∧ (i.2.1 + 1) * 2 ^ i.1 ≤ 2 * 2 ^ n ∧ PMok i.2.2.1 ∧ Enc.Ok i.2.2.2 i.1 ∧ Enc.evs i.2.2.1 i.2.2.2 (treeEv id o v i.1 i.2.1) = Enc.evs M E (treeEv id o v n 1) ∧ evsM i.2.2.1 (treeEv id o v i.1 i.2.1) = evsM M (treeEv id o v n 1))
    (fun i => [(0, .pointer (some ⟨g, 0, none⟩)), (1, .slice (some ⟨T.blk id, o, none⟩) len cap), (2, .int .i64 v), (8, .int .i64 i.2.1), (9, .int .i64 ((i.1 : Int) - 1))]) (fun i => [CoderA g i.2.2.2, Chances T i.2.2.1, F]) (fun i => i.1) (n, 1, M, E) ⟨Nat.le_refl _, Nat.le_refl _, hM, hE, rfl, rfl⟩ xag xpk ?_
  rintro ⟨k, m, M1, E1⟩ base' ⟨hk, hm, hM1, hE1, hev, hev2⟩
  dsimp only at hk hm hM1 hE1 hev hev2
  dsimp only
  rcases k with _ | k
  · skip
    refine JC.seq (JC.seq (JC.region ?_))
    refine JO.py (Py.move xe) ?_
    first | refine JO.py (Py.dec (Py.geq xe ev_const) (by omega)) ?_ | refine JO.py (Py.undec (Py.geq xe ev_const) (by omega)) ?_ | refine JO.py (Py.geq xe ev_const) ?_
    refine JO.nil (JX.code ?_)
    first | refine JC.condF xe ?_ | refine JC.condF ((xe).trans (vbool (decide_eq_false (by omega)))) ?_
    refine JC.exit (JX.exit (JX.exit (JX.blockE ?_)))
    obtain rfl : E1 = _ := hev
    obtain rfl : M1 = _ := hev2
    refine JX.end0 (Or.inr rfl) (()) Tryz.results30 rfl xpk
  · skip
    have hdv := Nat.div_le_self v (2 ^ k)
    have hd0 := Int.natCast_nonneg (v / 2 ^ k)
    have hb1 : (v.testBit k).toNat ≤ 1 := by cases v.testBit k <;> simp
    have hpk : 0 < 2 ^ k := Nat.pow_pos (by decide)
    have hm1 : (m + 1) * 2 ≤ 2 * 2 ^ n := by
      refine Nat.le_trans ?_ hm
      rw [Nat.pow_succ, Nat.mul_comm (2 ^ k) 2, ← Nat.mul_assoc]
      exact Nat.le_mul_of_pos_right _ hpk
    have hm2 : (2 * m + (v.testBit k).toNat + 1) * 2 ^ k ≤ 2 * 2 ^ n := by
      refine Nat.le_trans ?_ hm
      rw [Nat.pow_succ, Nat.mul_comm (2 ^ k) 2, ← Nat.mul_assoc]
      exact Nat.mul_le_mul_right _ (by omega)
    obtain ⟨pn, hpn⟩ : ∃ pn, 2 ^ n = pn := ⟨_, rfl⟩
    rw [hpn] at hm1 hl hl2
    have hE1b : Enc.Ok E1 1 := hE1.mono (by omega)
    have hE2 := Enc.Ok.ev hE1 hM1 (.bit id (o + m) (v.testBit k))
    refine JC.seq (JC.seq (JC.region ?_))
    refine JO.py (Py.move xe) ?_
    first | refine JO.py (Py.dec (Py.geq xe ev_const) (by omega)) ?_ | refine JO.py (Py.undec (Py.geq xe ev_const) (by omega)) ?_ | refine JO.py (Py.geq xe ev_const) ?_
    refine JO.nil (JX.code ?_)
    first | refine JC.condT xe ?_ | refine JC.condT ((xe).trans (vbool (decide_eq_true (by omega)))) ?_
    refine JC.skip (JX.code (JC.seq (JC.block (JC.seq (JC.region ?_)))))
    refine JO.py (Py.move xe) ?_
    refine JO.py (Py.move xe) ?_
    refine JO.py (Py.shrN k xe xe (by omega) (by simp only [IntKind.bits]; omega)) ?_
    refine JO.py (Py.to (Py.mask 1 2 xe ev_const (by decide) (by decide) (by decide) (r_i64 (by omega)) (w_i64 (by omega))) (vint (bit_int v k))) ?_
    refine JO.py (Py.assign xe) ?_
    refine JO.nil (JX.code (JC.seq (JC.region ?_)))
    refine JO.py (Py.move xe) ?_
    refine JO.py (Py.move xe) ?_
    refine JO.py (Py.move xe) ?_
    refine JO.py (Py.idxS Tryz.underlying48 siz61 xe xe (by omega) xidx xmult) ?_
    refine JO.py (Py.move xe) ?_
    refine JO.call (Evs.cons xe (Evs.cons xe (Evs.cons xe Evs.nil))) (bitM hT hM1 hE1b hid (ix := o + m) (by omega) (v.testBit k) rfl) xpk ?_
    rintro _
    show JO _ _ _ _ _ _ _ ((26, _) :: _) _ (_ :: _ :: _ :: _)
    refine JO.nil (JX.code (JC.region ?_))
    refine JO.py (Py.move xe) ?_
    refine JO.py (Py.mul ev_const xe (w_i64 (by omega))) ?_
    refine JO.py (Py.move xe) ?_
    refine JO.py (Py.add xe xe (w_i64 (by omega))) ?_
    refine JO.py (Py.assign xe) ?_
    refine JO.nil (JX.blockN (JX.code (JC.region ?_)))
    refine JO.py (Py.move xe) ?_
    refine JO.py (Py.sub xe ev_const (w_i64 (by omega))) ?_
    refine JO.py (Py.assign xe) ?_
    refine JO.nil ?_
    refine JX.loop (k, 2 * m + (v.testBit k).toNat, evM M1 (.bit id (o + m) (v.testBit k)), Enc.ev M1 E1 (.bit id (o + m) (v.testBit k))) ⟨by dsimp only; omega, by rw [← hpn] at *; exact hm2, by dsimp only; exact evM_ok hM1 _, hE2, hev, hev2⟩ (by dsimp only; omega) xag xpk

set_option maxRecDepth 100000 in
theorem back_con (G : Gst) (g : Nat) (T : Tab) (hT : T.Ok) (M : PM) (hM : PMok M) (E : Enc) (id o v n len cap : Nat) (hE : Enc.Ok E n) (hn : n ≤ 60) (hv : v < 1099511627776) (hid : id ∈ T.ids)
    (hl : o + 2 ^ n ≤ T.len id) (hl2 : 2 ^ n ≤ len) (hl3 : len ≤ 1000000) {vi ni : Int} (hvi : vi = (v : Int)) (hni : ni = (n : Int)) :
    Con Tryz.prog G 31 #[.pointer (some ⟨g, 0, none⟩), .slice (some ⟨T.blk id, o, none⟩) len cap, .int .i64 vi, .int .i64 ni] [CoderA g E, Chances T M] (fun _ : Unit => .tuple #[])
      (fun _ => [CoderA g (Enc.evs M E (backEv id o v n 0 1)), Chances T (evsM M (backEv id o v n 0 1))]) := by
  subst hvi hni
  refine Con.intro Tryz.func31 rfl (by kernel_rfl) Tryz.ntmps31 (Nat.le_of_ble_eq_true rfl) ?_
  intro F
  show JC _ _ _ _ _ _ [(0, _), (1, _), (2, _), (3, _)] _ [_, _, _]
  refine JC.seq (JC.region ?_)
  refine JO.py (Py.assign ev_const) ?_
  refine JO.nil (JX.code (JC.seq (JC.region ?_)))
  refine JO.py (Py.move xe) ?_
  refine JO.py (Py.move ev_const) ?_
  refine JO.nil (JX.code (JC.block ?_))
  refine JC.loop (ι := Nat × Nat × PM × Enc) (fun i => i.1 ≤ n ∧ (i.2.1 + 1) * 2 ^ i.1 ≤ 2 * 2 ^ n ∧ PMok i.2.2.1 ∧ Enc.Ok i.2.2.2 i.1 ∧ Enc.evs i.2.2.1 i.2.2.2 (backEv id o v i.1 (n - i.1) i.2.1) = Enc.evs M E (backEv id o v n 0 1) ∧ evsM i.2.2.1 (backEv id o v i.1 (n - i.1) i.2.1) = evsM M (backEv id o v n 0 1))
    (fun i => [(0, .pointer (some ⟨g, 0, none⟩)), (1, .slice (some ⟨T.blk id, o, none⟩) len cap), (2, .int .i64 v), (8, .int .i64 i.2.1), (11, .int .i64 n), (12, .int .i64 ((n - i.1 : Nat) : Int))]) (fun i => [CoderA g i.2.2.2, Chances T i.2.2.1, F]) (fun i => i.1) (n, 1, M, E) ⟨Nat.le_refl _, Nat.le_refl _, hM, hE, by simp only [Nat.sub_self], by simp only [Nat.sub_self]⟩ xag xpk ?_
  rintro ⟨k, m, M1, E1⟩ base' ⟨hk, hm, hM1, hE1, hev, hev2⟩
  dsimp only at hk hm hM1 hE1 hev hev2
  dsimp only
  rcases k with _ | k
  · skip
    refine JC.seq (JC.region ?_)
    first | refine JO.py (Py.dec (Py.lss xe xe) (by omega)) ?_ | refine JO.py (Py.undec (Py.lss xe xe) (by omega)) ?_ | refine JO.py (Py.lss xe xe) ?_
    refine JO.nil (JX.code (JC.seq ?_))
    first | refine JC.condF xe ?_ | refine JC.condF ((xe).trans (vbool (decide_eq_false (by omega)))) ?_
    refine JC.exit (JX.exit (JX.exit (JX.blockE ?_)))
    obtain rfl : E1 = _ := hev
    obtain rfl : M1 = _ := hev2
    refine JX.end0 (Or.inr rfl) (()) Tryz.results31 rfl xpk
  · skip
    obtain ⟨i, hi⟩ : ∃ i, n - (k + 1) = i := ⟨_, rfl⟩
    have hi2 : n - k = i + 1 := by omega
    rw [hi] at hev hev2 ⊢
    have hdv := Nat.div_le_self v (2 ^ i)
    have hd0 := Int.natCast_nonneg (v / 2 ^ i)
    have hb1 : (v.testBit i).toNat ≤ 1 := by cases v.testBit i <;> simp
    have hpk : 0 < 2 ^ k := Nat.pow_pos (by decide)
    have hm1 : (m + 1) * 2 ≤ 2 * 2 ^ n := by
      refine Nat.le_trans ?_ hm
      rw [Nat.pow_succ, Nat.mul_comm (2 ^ k) 2, ← Nat.mul_assoc]
      exact Nat.le_mul_of_pos_right _ hpk
    have hm2 : (2 * m + (v.testBit i).toNat + 1) * 2 ^ k ≤ 2 * 2 ^ n := by
      refine Nat.le_trans ?_ hm
      rw [Nat.pow_succ, Nat.mul_comm (2 ^ k) 2, ← Nat.mul_assoc]
      exact Nat.mul_le_mul_right _ (by omega)
    obtain ⟨pn, hpn⟩ : ∃ pn, 2 ^ n = pn := ⟨_, rfl⟩
    rw [hpn] at hm1 hl hl2
    have hE1b : Enc.Ok E1 1 := hE1.mono (by omega)
    have hE2 := Enc.Ok.ev hE1 hM1 (.bit id (o + m) (v.testBit i))
    refine JC.seq (JC.region ?_)
    first | refine JO.py (Py.dec (Py.lss xe xe) (by omega)) ?_ | refine JO.py (Py.undec (Py.lss xe xe) (by omega)) ?_ | refine JO.py (Py.lss xe xe) ?_
    refine JO.nil (JX.code (JC.seq ?_))
    first | refine JC.condT xe ?_ | refine JC.condT ((xe).trans (vbool (decide_eq_true (by omega)))) ?_
    refine JC.skip (JX.code (JC.seq (JC.block (JC.seq (JC.region ?_)))))
    refine JO.py (Py.move xe) ?_
    refine JO.py (Py.assign xe) ?_
    refine JO.nil (JX.code (JC.seq (JC.region ?_)))
    refine JO.py (Py.move xe) ?_
    refine JO.py (Py.move xe) ?_
    refine JO.py (Py.shrN i xe xe (by omega) (by simp only [IntKind.bits]; omega)) ?_
    refine JO.py (Py.to (Py.mask 1 2 xe ev_const (by decide) (by decide) (by decide) (r_i64 (by omega)) (w_i64 (by omega))) (vint (bit_int v i))) ?_
    refine JO.py (Py.assign xe) ?_
    refine JO.nil (JX.code (JC.seq (JC.region ?_)))
    refine JO.py (Py.move xe) ?_
    refine JO.py (Py.move xe) ?_
    refine JO.py (Py.move xe) ?_
    refine JO.py (Py.idxS Tryz.underlying48 siz61 xe xe (by omega) xidx xmult) ?_
    refine JO.py (Py.move xe) ?_
    refine JO.call (Evs.cons xe (Evs.cons xe (Evs.cons xe Evs.nil))) (bitM hT hM1 hE1b hid (ix := o + m) (by omega) (v.testBit i) rfl) xpk ?_
    rintro _
    show JO _ _ _ _ _ _ _ ((24, _) :: _) _ (_ :: _ :: _ :: _)
    refine JO.nil (JX.code (JC.region ?_))
    refine JO.py (Py.move xe) ?_
    refine JO.py (Py.mul ev_const xe (w_i64 (by omega))) ?_
    refine JO.py (Py.move xe) ?_
    refine JO.py (Py.add xe xe (w_i64 (by omega))) ?_
    refine JO.py (Py.assign xe) ?_
    refine JO.nil (JX.blockN (JX.code (JC.region ?_)))
    refine JO.py (Py.add xe ev_const (w_i64 (by omega))) ?_
    refine JO.py (Py.move xe) ?_
    refine JO.nil ?_
    refine JX.loop (k, 2 * m + (v.testBit i).toNat, evM M1 (.bit id (o + m) (v.testBit i)), Enc.ev M1 E1 (.bit id (o + m) (v.testBit i))) ⟨by dsimp only; omega, by rw [← hpn] at *; exact hm2, by dsimp only; exact evM_ok hM1 _, hE2, by dsimp only; rw [hi2]; exact hev, by dsimp only; rw [hi2]; exact hev2⟩ (by dsimp only; omega) xag xpk
end Go.Proofs.YtfpepghmbeoanaaGreatDoor
end

section
open Go Go.RowKit
namespace Go.Proofs.YtfpepghmbeoanaaGreatDoor
open Lz
theorem evs_cons {M : PM} {E : Enc} {e : Ev} {l : List Ev} : Enc.evs M E (e :: l) = Enc.evs (evM M e) (E.ev M e) l := rfl
theorem evsM_cons {M : PM} {e : Ev} {l : List Ev} : evsM M (e :: l) = evsM (evM M e) l := rfl
theorem evs_nil {M : PM} {E : Enc} : Enc.evs M E [] = E := rfl
theorem evsM_nil {M : PM} : evsM M [] = M := rfl
theorem xpkE {p : Prop} (h : p := by (try dsimp only [List.cons_append, List.nil_append, evs_cons, evsM_cons, evs_nil, evsM_nil]); exact xpicks) : p := h
/-- The row of this number, as a slice. -/
abbrev Tab.sl (T : Tab) (id : Nat) : Value := .slice (some ⟨T.blk id, 0, none⟩) (T.len id) (T.len id)
structure Lids where
  c : Nat
  l : Nat
  m : Nat
  h : Nat
def lenCells (T : Tab) (I : Lids) : Array Value := (T.sl I.c :: ((List.range 16).map fun i => T.sl (I.l + i)) ++ (((List.range 16).map fun i => T.sl (I.m + i)) ++ [T.sl I.h])).toArray
structure Lids.Ok (T : Tab) (I : Lids) : Prop where
  c : I.c ∈ T.ids ∧ T.len I.c = 2
  l : ∀ i, i < 16 → I.l + i ∈ T.ids ∧ T.len (I.l + i) = 8
  m : ∀ i, i < 16 → I.m + i ∈ T.ids ∧ T.len (I.m + i) = 8
  h : I.h ∈ T.ids ∧ T.len I.h = 256
theorem lenCells_c (T : Tab) (I : Lids) : (lenCells T I)[0]? = some (T.sl I.c) := rfl
theorem lenCells_l (T : Tab) (I : Lids) {i : Nat} (h : i < 16) : (lenCells T I)[1 + i]? = some (T.sl (I.l + i)) := by
  rw [show 1 + i = i + 1 from by omega]
  simp [lenCells, List.getElem?_append, h]
theorem lenCells_m (T : Tab) (I : Lids) {i : Nat} (h : i < 16) : (lenCells T I)[17 + i]? = some (T.sl (I.m + i)) := by
  rw [show 17 + i = (16 + i) + 1 from by omega]
  have : ¬ 16 + i < 16 := by omega
  simp [lenCells, List.getElem?_append, this, h]
theorem lenCells_h (T : Tab) (I : Lids) : (lenCells T I)[33]? = some (T.sl I.h) := rfl
def lenEv (I : Lids) (n pos : Nat) : List Ev :=
  if n < 10 then .bit I.c 0 false :: treeEv (I.l + pos) 0 (n - 2) 3 1
  else if n < 18 then .bit I.c 0 true :: .bit I.c 1 false :: treeEv (I.m + pos) 0 (n - 10) 3 1
  else .bit I.c 0 true :: .bit I.c 1 true :: treeEv I.h 0 (n - 18) 8 1
theorem lenEv_len (I : Lids) (n pos : Nat) : (lenEv I n pos).length ≤ 10 := by
  unfold lenEv
  split
  · simp [treeEv_len]
  · split <;> simp [treeEv_len]

set_option maxRecDepth 100000 in
theorem put_con (G : Gst) (g lb : Nat) (T : Tab) (hT : T.Ok) (I : Lids) (hI : I.Ok T) (M : PM) (hM : PMok M) (E : Enc) (n pos : Nat) (hE : Enc.Ok E 10) (hn : 2 ≤ n ∧ n ≤ 273) (hp : pos < 16) :
    Con Tryz.prog G 24 #[.pointer (some ⟨lb, 0, none⟩), .pointer (some ⟨g, 0, none⟩), .int .i64 (n : Int), .int .i64 (pos : Int)] [CoderA g E, Chances T M, cel lb 75 (lenCells T I)] (fun _ : Unit => .tuple #[])
      (fun _ => [CoderA g (Enc.evs M E (lenEv I n pos)), Chances T (evsM M (lenEv I n pos)), cel lb 75 (lenCells T I)]) := by
  have h1 := lenCells_c T I
  have h2 := lenCells_l T I hp
  have h3 := lenCells_m T I hp
  have h4 := lenCells_h T I
  have hc := hI.c.2
  have hl := (hI.l pos hp).2
  have hm := (hI.m pos hp).2
  have hh := hI.h.2
  have hE1 : Enc.Ok E 1 := hE.mono (by omega)
  unfold Tab.sl at h1 h2 h3 h4
  refine Con.intro Tryz.func24 rfl (by kernel_rfl) Tryz.ntmps24 (Nat.le_of_ble_eq_true rfl) ?_
  intro F
  show JC _ _ _ _ _ _ [(0, _), (1, _), (2, _), (3, _)] _ [_, _, _, _]
  refine JC.seq (JC.region ?_)
  refine JO.py (Py.move xe) ?_
  refine JO.py (Py.sub xe ev_const (w_i64 (by omega))) ?_
  refine JO.py (Py.assign xe) ?_
  refine JO.nil (JX.code (JC.block (JC.seq (JC.region ?_))))
  refine JO.py (Py.move xe) ?_
  first | refine JO.py (Py.dec (Py.lss xe ev_const) (by omega)) ?_ | refine JO.py (Py.undec (Py.lss xe ev_const) (by omega)) ?_ | refine JO.py (Py.lss xe ev_const) ?_
  refine JO.py (Py.assign xe) ?_
  refine JO.nil (JX.code ?_)
  unfold lenEv
  by_cases hA : n < 10
  · skip
    first | refine JC.condT xe ?_ | refine JC.condT ((xe).trans (vbool (decide_eq_true (by omega)))) ?_
    refine JC.seq (JC.region ?_)
    refine JO.py (Py.move xe) ?_
    refine JO.py (Py.move xe) ?_
    refine JO.py (Py.nil xe) ?_
    refine JO.py (Py.fld fld75_0 xe xoff) ?_
    refine JO.py (Py.load scal48 xe xpick xrow) ?_
    refine JO.py (Py.idxS Tryz.underlying48 siz61 xe ev_const (by omega) xidx xmult) ?_
    rw [if_pos hA]
    refine JO.call (Evs.cons xe (Evs.cons xe (Evs.cons ev_const Evs.nil))) (bitM hT hM hE1 hI.c.1 (ix := 0) (by omega) false rfl) xpkE ?_
    rintro _
    show JO _ _ _ _ _ _ _ ((41, _) :: _) _ (_ :: _ :: _ :: _)
    refine JO.nil (JX.code (JC.region ?_))
    refine JO.py (Py.move xe) ?_
    refine JO.py (Py.move xe) ?_
    refine JO.py (Py.move xe) ?_
    refine JO.py (Py.nil xe) ?_
    refine JO.py (Py.fld fld75_1 xe xoff) ?_
    refine JO.py (Py.idxA Tryz.underlying73 siz48 xe xe (by omega) xidx xmult) ?_
    refine JO.py (Py.load scal48 xe xpick xrow) ?_
    refine JO.py (Py.move xe) ?_
    refine JO.call (Evs.cons xe (Evs.cons xe (Evs.cons xe (Evs.cons ev_const Evs.nil)))) (tree_con G g T hT _ (evM_ok hM _) _ (I.l + pos) 0 (n - 2) 3 _ _ (Enc.Ok.ev (hE.mono (by omega)) hM (.bit I.c 0 false)) (by omega) (by omega) (hI.l pos hp).1 (by omega) (by omega) (by omega) (by omega) (by omega)) xpkE ?_
    rintro _
    show JO _ _ _ _ _ _ _ ((50, _) :: _) _ (_ :: _ :: _ :: _)
    refine JO.nil (JX.blockN ?_)
    refine JX.end0 (Or.inr rfl) (()) Tryz.results24 rfl xpkE
  · skip
    rw [if_neg hA]
    first | refine JC.condF xe ?_ | refine JC.condF ((xe).trans (vbool (decide_eq_false (by omega)))) ?_
    refine JC.seq (JC.region ?_)
    refine JO.py (Py.move xe) ?_
    first | refine JO.py (Py.dec (Py.lss xe ev_const) (by omega)) ?_ | refine JO.py (Py.undec (Py.lss xe ev_const) (by omega)) ?_ | refine JO.py (Py.lss xe ev_const) ?_
    refine JO.py (Py.assign xe) ?_
    refine JO.nil (JX.code ?_)
    by_cases hB : n < 18
    · skip
      rw [if_pos hB]
      first | refine JC.condT xe ?_ | refine JC.condT ((xe).trans (vbool (decide_eq_true (by omega)))) ?_
      refine JC.seq (JC.region ?_)
      refine JO.py (Py.move xe) ?_
      refine JO.py (Py.move xe) ?_
      refine JO.py (Py.nil xe) ?_
      refine JO.py (Py.fld fld75_0 xe xoff) ?_
      refine JO.py (Py.load scal48 xe xpick xrow) ?_
      refine JO.py (Py.idxS Tryz.underlying48 siz61 xe ev_const (by omega) xidx xmult) ?_
      refine JO.call (Evs.cons xe (Evs.cons xe (Evs.cons ev_const Evs.nil))) (bitM hT hM hE1 hI.c.1 (ix := 0) (by omega) true rfl) xpkE ?_
      rintro _
      show JO _ _ _ _ _ _ _ ((60, _) :: _) _ (_ :: _ :: _ :: _)
      refine JO.nil (JX.code (JC.seq (JC.region ?_)))
      refine JO.py (Py.move xe) ?_
      refine JO.py (Py.move xe) ?_
      refine JO.py (Py.nil xe) ?_
      refine JO.py (Py.fld fld75_0 xe xoff) ?_
      refine JO.py (Py.load scal48 xe xpick xrow) ?_
      refine JO.py (Py.idxS Tryz.underlying48 siz61 xe ev_const (by omega) xidx xmult) ?_
      refine JO.call (Evs.cons xe (Evs.cons xe (Evs.cons ev_const Evs.nil))) (bitM hT (evM_ok hM _) (Enc.Ok.ev (hE.mono (by omega)) hM (.bit I.c 0 true)) hI.c.1 (ix := 1) (by omega) false rfl) xpkE ?_
      rintro _
      show JO _ _ _ _ _ _ _ ((67, _) :: _) _ (_ :: _ :: _ :: _)
      refine JO.nil (JX.code (JC.region ?_))
      refine JO.py (Py.move xe) ?_
      refine JO.py (Py.move xe) ?_
      refine JO.py (Py.move xe) ?_
      refine JO.py (Py.nil xe) ?_
      refine JO.py (Py.fld fld75_2 xe xoff) ?_
      refine JO.py (Py.idxA Tryz.underlying73 siz48 xe xe (by omega) xidx xmult) ?_
      refine JO.py (Py.load scal48 xe xpick xrow) ?_
      refine JO.py (Py.move xe) ?_
      refine JO.py (Py.sub xe ev_const (w_i64 (by omega))) ?_
      refine JO.call (Evs.cons xe (Evs.cons xe (Evs.cons xe (Evs.cons ev_const Evs.nil)))) (tree_con G g T hT _ (evM_ok (evM_ok hM _) _) _ (I.m + pos) 0 (n - 10) 3 _ _ (Enc.Ok.ev (Enc.Ok.ev (hE.mono (by omega)) hM (.bit I.c 0 true)) (evM_ok hM _) (.bit I.c 1 false)) (by omega) (by omega) (hI.m pos hp).1 (by omega) (by omega) (by omega) (by omega) (by omega)) xpkE ?_
      rintro _
      show JO _ _ _ _ _ _ _ ((77, _) :: _) _ (_ :: _ :: _ :: _)
      refine JO.nil (JX.blockN ?_)
      refine JX.end0 (Or.inr rfl) (()) Tryz.results24 rfl xpkE
    · skip
      rw [if_neg hB]
      first | refine JC.condF xe ?_ | refine JC.condF ((xe).trans (vbool (decide_eq_false (by omega)))) ?_
      refine JC.seq (JC.region ?_)
      refine JO.py (Py.move xe) ?_
      refine JO.py (Py.move xe) ?_
      refine JO.py (Py.nil xe) ?_
      refine JO.py (Py.fld fld75_0 xe xoff) ?_
      refine JO.py (Py.load scal48 xe xpick xrow) ?_
      refine JO.py (Py.idxS Tryz.underlying48 siz61 xe ev_const (by omega) xidx xmult) ?_
      refine JO.call (Evs.cons xe (Evs.cons xe (Evs.cons ev_const Evs.nil))) (bitM hT hM hE1 hI.c.1 (ix := 0) (by omega) true rfl) xpkE ?_
      rintro _
      show JO _ _ _ _ _ _ _ ((16, _) :: _) _ (_ :: _ :: _ :: _)
      refine JO.nil (JX.code (JC.seq (JC.region ?_)))
      refine JO.py (Py.move xe) ?_
      refine JO.py (Py.move xe) ?_
      refine JO.py (Py.nil xe) ?_
      refine JO.py (Py.fld fld75_0 xe xoff) ?_
      refine JO.py (Py.load scal48 xe xpick xrow) ?_
      refine JO.py (Py.idxS Tryz.underlying48 siz61 xe ev_const (by omega) xidx xmult) ?_
      refine JO.call (Evs.cons xe (Evs.cons xe (Evs.cons ev_const Evs.nil))) (bitM hT (evM_ok hM _) (Enc.Ok.ev (hE.mono (by omega)) hM (.bit I.c 0 true)) hI.c.1 (ix := 1) (by omega) true rfl) xpkE ?_
      rintro _
      show JO _ _ _ _ _ _ _ ((23, _) :: _) _ (_ :: _ :: _ :: _)
      refine JO.nil (JX.code (JC.region ?_))
      refine JO.py (Py.move xe) ?_
      refine JO.py (Py.move xe) ?_
      refine JO.py (Py.nil xe) ?_
      refine JO.py (Py.fld fld75_3 xe xoff) ?_
      refine JO.py (Py.load scal48 xe xpick xrow) ?_
      refine JO.py (Py.move xe) ?_
      refine JO.py (Py.sub xe ev_const (w_i64 (by omega))) ?_
      refine JO.call (Evs.cons xe (Evs.cons xe (Evs.cons xe (Evs.cons ev_const Evs.nil)))) (tree_con G g T hT _ (evM_ok (evM_ok hM _) _) _ I.h 0 (n - 18) 8 _ _ (Enc.Ok.ev (Enc.Ok.ev (hE.mono (by omega)) hM (.bit I.c 0 true)) (evM_ok hM _) (.bit I.c 1 true)) (by omega) (by omega) hI.h.1 (by omega) (by omega) (by omega) (by omega) (by omega)) xpkE ?_
      rintro _
      show JO _ _ _ _ _ _ _ ((31, _) :: _) _ (_ :: _ :: _ :: _)
      refine JO.nil (JX.blockN ?_)
      refine JX.end0 (Or.inr rfl) (()) Tryz.results24 rfl xpkE
end Go.Proofs.YtfpepghmbeoanaaGreatDoor
end

section
open Go Go.RowKit
namespace Go.Proofs.YtfpepghmbeoanaaGreatDoor
open Lz
def matchedEv (id o v old : Nat) : Nat → Nat → List Ev
  | 0, _ => []
  | k + 1, m => .bit id (o + (256 * (1 + (old.testBit k).toNat) + m)) (v.testBit k) ::
      if old.testBit k = v.testBit k then matchedEv id o v old k (2 * m + (v.testBit k).toNat) else treeEv id o v k (2 * m + (v.testBit k).toNat)
theorem matchedEv_len (id o v old : Nat) : ∀ k m, (matchedEv id o v old k m).length = k
  | 0, _ => rfl
  | k + 1, m => by
    simp only [matchedEv, List.length_cons]
    split
    · rw [matchedEv_len id o v old k]
    · rw [treeEv_len]
def litEv (id o v st old : Nat) : List Ev := if st < 7 then treeEv id o v 8 1 else matchedEv id o v old 8 1
theorem litEv_len (id o v st old : Nat) : (litEv id o v st old).length = 8 := by unfold litEv; split <;> simp [treeEv_len, matchedEv_len]
theorem top_bit (v k : Nat) (h : k ≤ 7) : v * 2 ^ (7 - k) / 128 % 2 = (v.testBit k).toNat := by
  have e : (128 : Nat) = 2 ^ k * 2 ^ (7 - k) := by rw [← Nat.pow_add, show k + (7 - k) = 7 from by omega]
  rw [e, Nat.mul_div_mul_right _ _ (Nat.pow_pos (by decide)), bit_val]
theorem top_bit_int {x : Nat} {v k : Nat} (hx : x = v * 2 ^ (7 - k)) (h : k ≤ 7) : (x : Int) / 128 % 2 = ((v.testBit k).toNat : Int) := by
  rw [← top_bit v k h, hx]; simp
theorem dbl_pow {x v k : Nat} (h : k ≤ 7) (hx : x = v * 2 ^ (7 - k)) : x * 2 = v * 2 ^ (8 - k) := by
  rw [hx, Nat.mul_assoc, ← Nat.pow_succ, show (7 - k).succ = 8 - k from by omega]
theorem pow_le_256 {v k : Nat} (hv : v < 256) : v * 2 ^ (8 - k) ≤ 65280 := by
  have h1 : 2 ^ (8 - k) ≤ 2 ^ 8 := Nat.pow_le_pow_right (by decide) (by omega)
  have := Nat.mul_le_mul (show v ≤ 255 by omega) h1
  simpa using this

set_option maxRecDepth 100000 in
theorem lit_con (G : Gst) (g : Nat) (T : Tab) (hT : T.Ok) (M : PM) (hM : PMok M) (E : Enc) (id o v st len cap bb ob bl bc old : Nat) (at_ : Int) (cs : Array Value) (Tb : TypeId) (fr : Nat × Nat) (hE : Enc.Ok E 8) (hv : v < 256) (hold : old < 256) (hid : id ∈ T.ids)
    (hl : o + 768 ≤ T.len id) (hl2 : 768 ≤ len) (hst : st < 12) (hat : 7 ≤ st → 0 ≤ at_ ∧ at_ < bl ∧ cs[ob + at_.toNat]? = some (vu8 old)) :
    Con Tryz.prog G 22 #[.pointer (some ⟨g, 0, none⟩), .slice (some ⟨T.blk id, o, none⟩) len cap, .int .i64 (v : Int), .int .i64 (st : Int), .slice (some ⟨bb, ob, none⟩) bl bc, .int .i64 at_] [CoderA g E, Chances T M, blk bb (.cells cs Tb fr)] (fun _ : Unit => .tuple #[])
      (fun _ => [CoderA g (Enc.evs M E (litEv id o v st old)), Chances T (evsM M (litEv id o v st old)), blk bb (.cells cs Tb fr)]) := by
  refine Con.intro Tryz.func22 rfl (by kernel_rfl) Tryz.ntmps22 (Nat.le_of_ble_eq_true rfl) ?_
  intro F
  show JC _ _ _ _ _ _ [(0, _), (1, _), (2, _), (3, _), (4, _), (5, _)] _ [_, _, _, _]
  refine JC.seq (JC.region ?_)
  refine JO.py (Py.assign ev_const) ?_
  refine JO.nil (JX.code (JC.seq (JC.seq (JC.region ?_))))
  refine JO.py (Py.move xe) ?_
  first | refine JO.py (Py.dec (Py.geq xe ev_const) (by omega)) ?_ | refine JO.py (Py.undec (Py.geq xe ev_const) (by omega)) ?_ | refine JO.py (Py.geq xe ev_const) ?_
  refine JO.nil (JX.code ?_)
  refine JC.mid (ι := {i : Nat × Nat × Nat × PM × Enc // i.1 ≤ 8 ∧ 2 ^ (8 - i.1) ≤ i.2.1 ∧ i.2.1 < 2 * 2 ^ (8 - i.1) ∧ i.2.2.1 = v * 2 ^ (8 - i.1) ∧ PMok i.2.2.2.1 ∧ Enc.Ok i.2.2.2.2 i.1 ∧ Enc.evs i.2.2.2.1 i.2.2.2.2 (treeEv id o v i.1 i.2.1) = Enc.evs M E (litEv id o v st old) ∧ evsM i.2.2.2.1 (treeEv id o v i.1 i.2.1) = evsM M (litEv id o v st old)})
    (fun i => [(0, .pointer (some ⟨g, 0, none⟩)), (1, .slice (some ⟨T.blk id, o, none⟩) len cap), (2, .int .i64 i.1.2.2.1), (12, .int .i64 i.1.2.1)]) (fun i => [CoderA g i.1.2.2.2.2, Chances T i.1.2.2.2.1, blk bb (.cells cs Tb fr), F]) ?_ ?_
  · skip
    by_cases hs : st < 7
    · skip
      first | refine JC.condF xe ?_ | refine JC.condF ((xe).trans (vbool (decide_eq_false (by omega)))) ?_
      refine JC.skip ?_
      refine JX.cut ⟨(8, 1, v, M, E), Nat.le_refl _, by simp, by simp, by simp, hM, hE, by unfold litEv; rw [if_pos hs], by unfold litEv; rw [if_pos hs]⟩ xag xpkE rfl
    · skip
      have hat' := hat (by omega)
      have hcell := hat'.2.2
      obtain ⟨a0, ha0⟩ : ∃ a0 : Nat, at_ = a0 := ⟨at_.toNat, by omega⟩
      subst ha0
      rw [Int.toNat_natCast] at hcell
      first | refine JC.condT xe ?_ | refine JC.condT ((xe).trans (vbool (decide_eq_true (by omega)))) ?_
      refine JC.seq (JC.region ?_)
      refine JO.py (Py.move xe) ?_
      refine JO.py (Py.move xe) ?_
      refine JO.py (Py.idxS Tryz.underlying22 siz5 xe xe (by omega) xidx xmult) ?_
      refine JO.py (Py.load scal5 xe xpick xrow) ?_
      first | refine JO.py (Py.conv cnv5_3 xe (w_i64 (by omega))) ?_ | refine JO.py (Py.conv cnv5_3 xe rfl) ?_
      refine JO.py (Py.assign xe) ?_
      refine JO.nil (JX.code (JC.block ?_))
      refine JC.loop (ι := Nat × Nat × Nat × Nat × PM × Enc) (fun i => i.1 ≤ 8 ∧ 2 ^ (8 - i.1) ≤ i.2.1 ∧ i.2.1 < 2 * 2 ^ (8 - i.1) ∧ i.2.2.1 = v * 2 ^ (8 - i.1) ∧ i.2.2.2.1 = old * 2 ^ (8 - i.1) ∧ PMok i.2.2.2.2.1 ∧ Enc.Ok i.2.2.2.2.2 i.1 ∧ Enc.evs i.2.2.2.2.1 i.2.2.2.2.2 (matchedEv id o v old i.1 i.2.1) = Enc.evs M E (litEv id o v st old) ∧ evsM i.2.2.2.2.1 (matchedEv id o v old i.1 i.2.1) = evsM M (litEv id o v st old))
        (fun i => [(0, .pointer (some ⟨g, 0, none⟩)), (1, .slice (some ⟨T.blk id, o, none⟩) len cap), (2, .int .i64 i.2.2.1), (12, .int .i64 i.2.1), (13, .int .i64 i.2.2.2.1)]) (fun i => [CoderA g i.2.2.2.2.2, Chances T i.2.2.2.2.1, blk bb (.cells cs Tb fr), F]) (fun i => i.1) (8, 1, v, old, M, E)
        ⟨Nat.le_refl _, by simp, by simp, by simp, by simp, hM, hE, by unfold litEv; rw [if_neg hs], by unfold litEv; rw [if_neg hs]⟩ xag xpkE ?_
      rintro ⟨k, m, x, y, M1, E1⟩ base' ⟨hk, hm1, hm2, hx, hy, hM1, hE1, hev, hev2⟩
      dsimp only at hk hm1 hm2 hx hy hM1 hE1 hev hev2 ⊢
      rcases k with _ | k
      · skip
        have hm3 : 256 ≤ m := by simpa using hm1
        refine JC.seq (JC.seq (JC.region ?_))
        refine JO.py (Py.move xe) ?_
        first | refine JO.py (Py.dec (Py.lss xe ev_const) (by omega)) ?_ | refine JO.py (Py.undec (Py.lss xe ev_const) (by omega)) ?_ | refine JO.py (Py.lss xe ev_const) ?_
        refine JO.nil (JX.code ?_)
        first | refine JC.condF xe ?_ | refine JC.condF ((xe).trans (vbool (decide_eq_false (by omega)))) ?_
        refine JC.exit (JX.exit (JX.exit (JX.blockE ?_)))
        refine JX.cut ⟨(0, m, x, M1, E1), Nat.zero_le _, hm1, hm2, hx, hM1, hE1, hev, hev2⟩ xag xpkE rfl
      · skip
        have hk7 : k ≤ 7 := by omega
        have e8 : 8 - (k + 1) = 7 - k := by omega
        rw [e8] at hm1 hm2 hx hy
        have hp7 : 2 ^ (7 - k) ≤ 2 ^ 7 := Nat.pow_le_pow_right (by decide) (by omega)
        have hp8 : 2 ^ (8 - k) = 2 ^ (7 - k) * 2 := by rw [← Nat.pow_succ, show (7 - k).succ = 8 - k from by omega]
        have hx2 := dbl_pow hk7 hx
        have hy2 := dbl_pow hk7 hy
        have hx3 := pow_le_256 (k := k) hv
        have hy3 := pow_le_256 (k := k) hold
        rw [← hx2] at hx3
        rw [← hy2] at hy3
        obtain ⟨pw, hpw⟩ : ∃ pw, 2 ^ (7 - k) = pw := ⟨_, rfl⟩
        have hxb := top_bit_int hx hk7
        have hyb := top_bit_int hy hk7
        rw [hpw] at hm1 hm2 hp7 hp8
        have hb1 : (v.testBit k).toNat ≤ 1 := by cases v.testBit k <;> simp
        have hb2 : (old.testBit k).toNat ≤ 1 := by cases old.testBit k <;> simp
        have hE1b : Enc.Ok E1 1 := hE1.mono (by omega)
        have hE2 := Enc.Ok.ev hE1 hM1 (.bit id (o + (256 * (1 + (old.testBit k).toNat) + m)) (v.testBit k))
        refine JC.seq (JC.seq (JC.region ?_))
        refine JO.py (Py.move xe) ?_
        first | refine JO.py (Py.dec (Py.lss xe ev_const) (by omega)) ?_ | refine JO.py (Py.undec (Py.lss xe ev_const) (by omega)) ?_ | refine JO.py (Py.lss xe ev_const) ?_
        refine JO.nil (JX.code ?_)
        first | refine JC.condT xe ?_ | refine JC.condT ((xe).trans (vbool (decide_eq_true (by omega)))) ?_
        refine JC.skip (JX.code (JC.block (JC.seq (JC.region ?_))))
        refine JO.py (Py.move xe) ?_
        refine JO.py (Py.shr 7 128 xe ev_const rfl (by decide) (by decide) (by decide)) ?_
        refine JO.py (Py.mask 1 2 xe ev_const (by decide) (by decide) (by decide) (r_i64 (by omega)) (w_i64 (by omega))) ?_
        refine JO.py (Py.move xe) ?_
        refine JO.py (Py.shr 7 128 xe ev_const rfl (by decide) (by decide) (by decide)) ?_
        refine JO.py (Py.mask 1 2 xe ev_const (by decide) (by decide) (by decide) (r_i64 (by omega)) (w_i64 (by omega))) ?_
        refine JO.py (Py.assign xe) ?_
        refine JO.py (Py.assign xe) ?_
        refine JO.nil (JX.code (JC.seq (JC.region ?_)))
        refine JO.py (Py.move xe) ?_
        refine JO.py (Py.shl 1 2 xe ev_const rfl (by decide) (by decide) (w_i64 (by omega))) ?_
        refine JO.py (Py.move xe) ?_
        refine JO.py (Py.shl 1 2 xe ev_const rfl (by decide) (by decide) (w_i64 (by omega))) ?_
        refine JO.py (Py.assign xe) ?_
        refine JO.py (Py.assign xe) ?_
        refine JO.nil (JX.code (JC.seq (JC.region ?_)))
        refine JO.py (Py.move xe) ?_
        refine JO.py (Py.move xe) ?_
        refine JO.py (Py.move xe) ?_
        refine JO.py (Py.add ev_const xe (w_i64 (by omega))) ?_
        refine JO.py (Py.mul ev_const xe (w_i64 (by omega))) ?_
        refine JO.py (Py.move xe) ?_
        refine JO.py (Py.add xe xe (w_i64 (by omega))) ?_
        refine JO.py (Py.idxS (j := 256 * (1 + (old.testBit k).toNat) + m) Tryz.underlying48 siz61 xe xe (by omega) (by omega) xmult) ?_
        refine JO.py (Py.move xe) ?_
        refine JO.call (Evs.cons xe (Evs.cons xe (Evs.cons xe Evs.nil))) (bitM hT hM1 hE1b hid (ix := o + (256 * (1 + (old.testBit k).toNat) + m)) (by omega) (v.testBit k) hxb) xpkE ?_
        rintro _
        show JO _ _ _ _ _ _ _ ((45, _) :: _) _ (_ :: _ :: _ :: _)
        refine JO.nil (JX.code (JC.seq (JC.region ?_)))
        refine JO.py (Py.move xe) ?_
        refine JO.py (Py.mul ev_const xe (w_i64 (by omega))) ?_
        refine JO.py (Py.move xe) ?_
        refine JO.py (Py.add xe xe (w_i64 (by omega))) ?_
        refine JO.py (Py.assign xe) ?_
        refine JO.nil (JX.code (JC.seq (JC.region ?_)))
        refine JO.py (Py.move xe) ?_
        refine JO.py (Py.move xe) ?_
        first | refine JO.py (Py.dec (Py.neq xe xe) (by omega)) ?_ | refine JO.py (Py.undec (Py.neq xe xe) (by omega)) ?_ | refine JO.py (Py.neq xe xe) ?_
        refine JO.nil (JX.code ?_)
        have hM2 := evM_ok hM1 (.bit id (o + (256 * (1 + (old.testBit k).toNat) + m)) (v.testBit k))
        by_cases hbb : old.testBit k = v.testBit k
        · skip
          have hbb2 : (old.testBit k).toNat = (v.testBit k).toNat := by rw [hbb]
          rw [matchedEv, if_pos hbb] at hev hev2
          first | refine JC.condF xe ?_ | refine JC.condF ((xe).trans (vbool (decide_eq_false (by omega)))) ?_
          refine JC.skip (JX.blockN ?_)
          refine JX.loop (k, 2 * m + (v.testBit k).toNat, x * 2, y * 2, evM M1 (.bit id (o + (256 * (1 + (old.testBit k).toNat) + m)) (v.testBit k)), Enc.ev M1 E1 (.bit id (o + (256 * (1 + (old.testBit k).toNat) + m)) (v.testBit k))) ⟨by dsimp only; omega, by dsimp only; omega, by dsimp only; omega, hx2, hy2, hM2, hE2, hev, hev2⟩ (by dsimp only; omega) xag xpkE
        · skip
          have hbb2 : (old.testBit k).toNat ≠ (v.testBit k).toNat := fun e => hbb (by revert e; cases old.testBit k <;> cases v.testBit k <;> simp)
          rw [matchedEv, if_neg hbb] at hev hev2
          first | refine JC.condT xe ?_ | refine JC.condT ((xe).trans (vbool (decide_eq_true (by omega)))) ?_
          refine JC.exit (JX.blockO rfl (JX.exit (JX.blockE ?_)))
          refine JX.cut ⟨(k, 2 * m + (v.testBit k).toNat, x * 2, evM M1 (.bit id (o + (256 * (1 + (old.testBit k).toNat) + m)) (v.testBit k)), Enc.ev M1 E1 (.bit id (o + (256 * (1 + (old.testBit k).toNat) + m)) (v.testBit k))), by dsimp only; omega, by dsimp only; omega, by dsimp only; omega, hx2, hM2, hE2, hev, hev2⟩ xag xpkE rfl
  · skip
    rintro ⟨⟨k, m, x, M1, E1⟩, hk, hm1, hm2, hx, hM1, hE1, hev, hev2⟩ base'
    dsimp only at hk hm1 hm2 hx hM1 hE1 hev hev2 ⊢
    refine JX.code (JC.block ?_)
    refine JC.loop (ι := Nat × Nat × Nat × PM × Enc) (fun i => i.1 ≤ 8 ∧ 2 ^ (8 - i.1) ≤ i.2.1 ∧ i.2.1 < 2 * 2 ^ (8 - i.1) ∧ i.2.2.1 = v * 2 ^ (8 - i.1) ∧ PMok i.2.2.2.1 ∧ Enc.Ok i.2.2.2.2 i.1 ∧ Enc.evs i.2.2.2.1 i.2.2.2.2 (treeEv id o v i.1 i.2.1) = Enc.evs M E (litEv id o v st old) ∧ evsM i.2.2.2.1 (treeEv id o v i.1 i.2.1) = evsM M (litEv id o v st old))
      (fun i => [(0, .pointer (some ⟨g, 0, none⟩)), (1, .slice (some ⟨T.blk id, o, none⟩) len cap), (2, .int .i64 i.2.2.1), (12, .int .i64 i.2.1)]) (fun i => [CoderA g i.2.2.2.2, Chances T i.2.2.2.1, blk bb (.cells cs Tb fr), F]) (fun i => i.1) (k, m, x, M1, E1)
      ⟨hk, hm1, hm2, hx, hM1, hE1, hev, hev2⟩ xag xpkE ?_
    clear hk hm1 hm2 hx hM1 hE1 hev hev2 k m x M1 E1
    rintro ⟨k, m, x, M1, E1⟩ base' ⟨hk, hm1, hm2, hx, hM1, hE1, hev, hev2⟩
    dsimp only at hk hm1 hm2 hx hM1 hE1 hev hev2 ⊢
    rcases k with _ | k
    · skip
      have hm3 : 256 ≤ m := by simpa using hm1
      refine JC.seq (JC.seq (JC.region ?_))
      refine JO.py (Py.move xe) ?_
      first | refine JO.py (Py.dec (Py.lss xe ev_const) (by omega)) ?_ | refine JO.py (Py.undec (Py.lss xe ev_const) (by omega)) ?_ | refine JO.py (Py.lss xe ev_const) ?_
      refine JO.nil (JX.code ?_)
      first | refine JC.condF xe ?_ | refine JC.condF ((xe).trans (vbool (decide_eq_false (by omega)))) ?_
      refine JC.exit (JX.exit (JX.exit (JX.blockE ?_)))
      obtain rfl : E1 = _ := hev
      obtain rfl : M1 = _ := hev2
      refine JX.end0 (Or.inr rfl) (()) Tryz.results22 rfl xpkE
    · skip
      have hk7 : k ≤ 7 := by omega
      have e8 : 8 - (k + 1) = 7 - k := by omega
      rw [e8] at hm1 hm2 hx
      have hp7 : 2 ^ (7 - k) ≤ 2 ^ 7 := Nat.pow_le_pow_right (by decide) (by omega)
      have hp8 : 2 ^ (8 - k) = 2 ^ (7 - k) * 2 := by rw [← Nat.pow_succ, show (7 - k).succ = 8 - k from by omega]
      have hx2 := dbl_pow hk7 hx
      have hx3 := pow_le_256 (k := k) hv
      rw [← hx2] at hx3
      obtain ⟨pw, hpw⟩ : ∃ pw, 2 ^ (7 - k) = pw := ⟨_, rfl⟩
      have hxb := top_bit_int hx hk7
      rw [hpw] at hm1 hm2 hp7 hp8
      have hb1 : (v.testBit k).toNat ≤ 1 := by cases v.testBit k <;> simp
      have hE1b : Enc.Ok E1 1 := hE1.mono (by omega)
      have hE2 := Enc.Ok.ev hE1 hM1 (.bit id (o + m) (v.testBit k))
      have hM2 := evM_ok hM1 (.bit id (o + m) (v.testBit k))
      refine JC.seq (JC.seq (JC.region ?_))
      refine JO.py (Py.move xe) ?_
      first | refine JO.py (Py.dec (Py.lss xe ev_const) (by omega)) ?_ | refine JO.py (Py.undec (Py.lss xe ev_const) (by omega)) ?_ | refine JO.py (Py.lss xe ev_const) ?_
      refine JO.nil (JX.code ?_)
      first | refine JC.condT xe ?_ | refine JC.condT ((xe).trans (vbool (decide_eq_true (by omega)))) ?_
      refine JC.skip (JX.code (JC.block (JC.seq (JC.region ?_))))
      refine JO.py (Py.move xe) ?_
      refine JO.py (Py.shr 7 128 xe ev_const rfl (by decide) (by decide) (by decide)) ?_
      refine JO.py (Py.mask 1 2 xe ev_const (by decide) (by decide) (by decide) (r_i64 (by omega)) (w_i64 (by omega))) ?_
      refine JO.py (Py.assign xe) ?_
      refine JO.nil (JX.code (JC.seq (JC.region ?_)))
      refine JO.py (Py.move xe) ?_
      refine JO.py (Py.shl 1 2 xe ev_const rfl (by decide) (by decide) (w_i64 (by omega))) ?_
      refine JO.py (Py.assign xe) ?_
      refine JO.nil (JX.code (JC.seq (JC.region ?_)))
      refine JO.py (Py.move xe) ?_
      refine JO.py (Py.move xe) ?_
      refine JO.py (Py.move xe) ?_
      refine JO.py (Py.idxS Tryz.underlying48 siz61 xe xe (by omega) xidx xmult) ?_
      refine JO.py (Py.move xe) ?_
      refine JO.call (Evs.cons xe (Evs.cons xe (Evs.cons xe Evs.nil))) (bitM hT hM1 hE1b hid (ix := o + m) (by omega) (v.testBit k) hxb) xpkE ?_
      rintro _
      show JO _ _ _ _ _ _ _ ((65, _) :: _) _ (_ :: _ :: _ :: _)
      refine JO.nil (JX.code (JC.region ?_))
      refine JO.py (Py.move xe) ?_
      refine JO.py (Py.mul ev_const xe (w_i64 (by omega))) ?_
      refine JO.py (Py.move xe) ?_
      refine JO.py (Py.add xe xe (w_i64 (by omega))) ?_
      refine JO.py (Py.assign xe) ?_
      refine JO.nil (JX.blockN ?_)
      refine JX.loop (k, 2 * m + (v.testBit k).toNat, x * 2, evM M1 (.bit id (o + m) (v.testBit k)), Enc.ev M1 E1 (.bit id (o + m) (v.testBit k))) ⟨by dsimp only; omega, by dsimp only; omega, by dsimp only; omega, hx2, hM2, hE2, hev, hev2⟩ (by dsimp only; omega) xag xpkE
end Go.Proofs.YtfpepghmbeoanaaGreatDoor
end

section
open Go Go.RowKit
namespace Go.Proofs.YtfpepghmbeoanaaGreatDoor
open Lz
def slotOf (d : Nat) : Nat := if d < 4 then d else 2 * d.log2 + d / 2 ^ (d.log2 - 1) % 2
def distEv (sid d : Nat) : List Ev :=
  treeEv sid 0 (slotOf d) 6 1 ++ (if d < 4 then [] else
    if slotOf d < 14 then backEv (7 + slotOf d) 0 (d % 2 ^ (d.log2 - 1)) (d.log2 - 1) 0 1
    else evenEv (d % 2 ^ (d.log2 - 1) / 16) (d.log2 - 1 - 4) ++ backEv 10 0 (d % 2 ^ (d.log2 - 1) % 16) 4 0 1)
/-- The two highest bits. -/
theorem top_two {d n : Nat} (hn : 1 ≤ n) (h1 : 2 ^ n ≤ d) (h2 : d < 2 ^ (n + 1)) : d / 2 ^ (n - 1) = 2 + d / 2 ^ (n - 1) % 2 := by
  obtain ⟨m, rfl⟩ : ∃ m, n = m + 1 := ⟨n - 1, by omega⟩
  simp only [Nat.add_sub_cancel]
  have hp : 0 < 2 ^ m := Nat.pow_pos (by decide)
  rw [Nat.pow_succ] at h1 h2
  rw [Nat.pow_succ] at h2
  have a : 2 ≤ d / 2 ^ m := (Nat.le_div_iff_mul_le hp).2 (by omega)
  have b : d / 2 ^ m < 4 := (Nat.div_lt_iff_lt_mul hp).2 (by omega)
  omega
theorem log2_facts {d : Nat} (h : 4 ≤ d) (h2 : d < 1048576) : 2 ^ d.log2 ≤ d ∧ d < 2 ^ (d.log2 + 1) ∧ 2 ≤ d.log2 ∧ d.log2 < 20 := by
  have a : 2 ^ d.log2 ≤ d := Nat.log2_self_le (by omega)
  have b : d < 2 ^ (d.log2 + 1) := Nat.lt_log2_self
  refine ⟨a, b, ?_, ?_⟩
  · rcases Nat.lt_or_ge d.log2 2 with h3 | h3
    · have : 2 ^ (d.log2 + 1) ≤ 2 ^ 2 := Nat.pow_le_pow_right (by decide) (by omega)
      omega
    · exact h3
  · rcases Nat.lt_or_ge d.log2 20 with h3 | h3
    · exact h3
    · have : 2 ^ 20 ≤ 2 ^ d.log2 := Nat.pow_le_pow_right (by decide) h3
      omega
theorem slotOf_facts {d : Nat} (h : 4 ≤ d) (h2 : d < 1048576) : slotOf d / 2 = d.log2 ∧ slotOf d % 2 = d / 2 ^ (d.log2 - 1) % 2 ∧ 4 ≤ slotOf d ∧ slotOf d < 40 ∧ (2 + slotOf d % 2) * 2 ^ (d.log2 - 1) + d % 2 ^ (d.log2 - 1) = d := by
  obtain ⟨a, b, c, e⟩ := log2_facts h h2
  have t := top_two (by omega) a b
  have hs : slotOf d = 2 * d.log2 + d / 2 ^ (d.log2 - 1) % 2 := by unfold slotOf; rw [if_neg (by omega)]
  have hm := Nat.mod_lt (d / 2 ^ (d.log2 - 1)) (show 2 > 0 by decide)
  refine ⟨by omega, by omega, by omega, by omega, ?_⟩
  rw [show slotOf d % 2 = d / 2 ^ (d.log2 - 1) % 2 by omega, ← t, Nat.mul_comm]
  exact Nat.div_add_mod _ _
theorem distEv_len (sid d : Nat) (h2 : d < 1048576) : (distEv sid d).length ≤ 30 := by
  unfold distEv
  rw [List.length_append, treeEv_len]
  split
  · simp
  · rename_i h
    obtain ⟨a, b, c, e⟩ := log2_facts (by omega) h2
    split
    · rw [backEv_len]; omega
    · rw [List.length_append, evenEv_len, backEv_len]; omega
def specCells (T : Tab) : Array Value := ((List.range 14).map fun i => if i < 4 then Value.slice none 0 0 else T.sl (7 + i)).toArray
theorem specCells_get (T : Tab) {i : Nat} (h1 : 4 ≤ i) (h2 : i < 14) : (specCells T)[i]? = some (T.sl (7 + i)) := by
  have : ¬ i < 4 := by omega
  simp [specCells, h2, this]
structure DistOk (T : Tab) (sid : Nat) : Prop where
  s : sid ∈ T.ids ∧ T.len sid = 64
  p : ∀ i, 4 ≤ i → i < 14 → 7 + i ∈ T.ids ∧ T.len (7 + i) = 2 ^ (i / 2 - 1)
  a : 10 ∈ T.ids ∧ T.len 10 = 16

set_option maxRecDepth 100000 in
theorem dist_con (G : Gst) (g : Nat) (T : Tab) (hT : T.Ok) (M : PM) (hM : PMok M) (E : Enc) (sid d : Nat) (hI : DistOk T sid) (hE : Enc.Ok E 30) (hd : d < 1048576) :
    Con Tryz.prog G 26 #[.pointer (some ⟨g, 0, none⟩), T.sl sid, .agg (specCells T), T.sl 10, .int .i64 (d : Int)] [CoderA g E, Chances T M] (fun _ : Unit => .tuple #[])
      (fun _ => [CoderA g (Enc.evs M E (distEv sid d)), Chances T (evsM M (distEv sid d))]) := by
  refine Con.intro Tryz.func26 rfl (by kernel_rfl) Tryz.ntmps26 (Nat.le_of_ble_eq_true rfl) ?_
  intro F
  show JC _ _ _ _ _ _ [(0, _), (1, _), (2, _), (3, _), (4, _)] _ [_, _, _]
  refine JC.seq (JC.region ?_)
  refine JO.boxA xe ?_; intro b7
  refine JO.nil (JX.code (JC.seq (JC.region ?_)))
  refine JO.py (Py.move xe) ?_
  refine JO.py (Py.assign xe) ?_
  refine JO.py (Py.assign ev_const) ?_
  refine JO.nil (JX.code (JC.seq (JC.seq (JC.region ?_))))
  refine JO.py (Py.move xe) ?_
  first | refine JO.py (Py.dec (Py.geq xe ev_const) (by omega)) ?_ | refine JO.py (Py.undec (Py.geq xe ev_const) (by omega)) ?_ | refine JO.py (Py.geq xe ev_const) ?_
  refine JO.nil (JX.code ?_)
  refine JC.mid (ι := Unit) (fun _ => [(0, .pointer (some ⟨g, 0, none⟩)), (1, T.sl sid), (3, T.sl 10), (4, .int .i64 (d : Int)), (7, .pointer (some ⟨b7, 0, none⟩)), (10, .int .i64 (slotOf d))]) (fun _ => [CoderA g E, Chances T M, cel b7 51 (specCells T), F]) ?_ ?_
  · skip
    by_cases h4 : d < 4
    · skip
      first | refine JC.condF xe ?_ | refine JC.condF ((xe).trans (vbool (decide_eq_false (by omega)))) ?_
      refine JC.skip ?_
      have hs : slotOf d = d := by unfold slotOf; rw [if_pos h4]
      refine JX.cut () (by rw [hs]; exact xagree) xpkE rfl
    · skip
      obtain ⟨f1, f2, f3, f4⟩ := log2_facts (by omega) hd
      first | refine JC.condT xe ?_ | refine JC.condT ((xe).trans (vbool (decide_eq_true (by omega)))) ?_
      refine JC.seq (JC.block ?_)
      refine JC.loop (ι := Nat) (fun n => 2 ^ n ≤ d ∧ n ≤ d.log2) (fun n => [(0, .pointer (some ⟨g, 0, none⟩)), (1, T.sl sid), (3, T.sl 10), (4, .int .i64 (d : Int)), (7, .pointer (some ⟨b7, 0, none⟩)), (11, .int .i64 (n : Int))]) (fun _ => [CoderA g E, Chances T M, cel b7 51 (specCells T), F]) (fun n => 30 - n) 0 ⟨by simp; omega, by omega⟩ xag xpkE ?_
      rintro n base' ⟨hn1, hn2⟩
      have hd0 := Nat.zero_le (d / 2 ^ (n + 1))
      have hdv := Nat.div_le_self d (2 ^ (n + 1))
      refine JC.seq (JC.seq (JC.region ?_))
      refine JO.py (Py.move xe) ?_
      refine JO.py (Py.move xe) ?_
      refine JO.py (Py.add xe ev_const (w_i64 (by omega))) ?_
      refine JO.py (Py.shrN (n + 1) xe xe (by omega) (by simp only [IntKind.bits]; omega)) ?_
      by_cases hq : 2 ^ (n + 1) ≤ d
      · skip
        have hq2 : 0 < d / 2 ^ (n + 1) := Nat.div_pos hq (Nat.pow_pos (by decide))
        have hn3 : n + 1 ≤ d.log2 := (Nat.le_log2 (by omega)).2 hq
        first | refine JO.py (Py.dec (Py.gtr xe ev_const) (by omega)) ?_ | refine JO.py (Py.undec (Py.gtr xe ev_const) (by omega)) ?_ | refine JO.py (Py.gtr xe ev_const) ?_
        refine JO.nil (JX.code ?_)
        first | refine JC.condT xe ?_ | refine JC.condT ((xe).trans (vbool (decide_eq_true (by omega)))) ?_
        refine JC.skip (JX.code (JC.block (JC.region ?_)))
        refine JO.py (Py.move xe) ?_
        refine JO.py (Py.add xe ev_const (w_i64 (by omega))) ?_
        refine JO.py (Py.assign xe) ?_
        refine JO.nil (JX.blockN ?_)
        refine JX.loop (n + 1) ⟨hq, hn3⟩ (by (try dsimp only); omega) xag xpkE
      · skip
        have hq2 : d / 2 ^ (n + 1) = 0 := Nat.div_eq_of_lt (by omega)
        have hnl : d.log2 = n := (Nat.log2_eq_iff (by omega)).2 ⟨hn1, by omega⟩
        first | refine JO.py (Py.dec (Py.gtr xe ev_const) (by omega)) ?_ | refine JO.py (Py.undec (Py.gtr xe ev_const) (by omega)) ?_ | refine JO.py (Py.gtr xe ev_const) ?_
        refine JO.nil (JX.code ?_)
        first | refine JC.condF xe ?_ | refine JC.condF ((xe).trans (vbool (decide_eq_false (by omega)))) ?_
        refine JC.exit (JX.exit (JX.exit (JX.blockE (JX.code (JC.region ?_)))))
        refine JO.py (Py.move xe) ?_
        refine JO.py (Py.mul ev_const xe (w_i64 (by omega))) ?_
        refine JO.py (Py.move xe) ?_
        refine JO.py (Py.move xe) ?_
        refine JO.py (Py.sub xe ev_const (w_i64 (by omega))) ?_
        rw [hnl] at f3 f4
        have hd1 := Nat.zero_le (d / 2 ^ (n - 1))
        have hdv1 := Nat.div_le_self d (2 ^ (n - 1))
        have hs : slotOf d = 2 * n + d / 2 ^ (n - 1) % 2 := by unfold slotOf; rw [if_neg h4, hnl]
        refine JO.py (Py.shrN (n - 1) xe xe (by omega) (by simp only [IntKind.bits]; omega)) ?_
        refine JO.py (Py.mask 1 2 xe ev_const (by decide) (by decide) (by decide) (r_i64 (by omega)) (w_i64 (by omega))) ?_
        refine JO.py (Py.add xe xe (w_i64 (by omega))) ?_
        refine JO.py (Py.assign xe) ?_
        refine JO.nil ?_
        refine JX.cut () xag xpkE rfl
  · skip
    rintro ⟨⟩ base'
    refine JX.code (JC.seq (JC.region ?_))
    refine JO.py (Py.move xe) ?_
    refine JO.py (Py.move xe) ?_
    refine JO.py (Py.move xe) ?_
    have hs40 : slotOf d < 40 := by
      by_cases h4 : d < 4
      · unfold slotOf; rw [if_pos h4]; omega
      · exact (slotOf_facts (by omega) hd).2.2.2.1
    have hs64 := hI.s.2
    refine JO.call (Evs.cons xe (Evs.cons xe (Evs.cons xe (Evs.cons ev_const Evs.nil)))) (tree_con G g T hT M hM E sid 0 (slotOf d) 6 _ _ (hE.mono (by omega)) (by omega) (by omega) hI.s.1 (by omega) (by omega) (by omega) rfl rfl) xpkE ?_
    rintro _
    show JO _ _ _ _ _ _ _ ((35, _) :: _) _ (_ :: _ :: _ :: _)
    have hM1 := evsM_ok hM (treeEv sid 0 (slotOf d) 6 1)
    have hE1 : Enc.Ok (Enc.evs M E (treeEv sid 0 (slotOf d) 6 1)) 24 := Enc.Ok.evs (by rw [treeEv_len]; exact hE) hM
    refine JO.nil (JX.code (JC.seq (JC.seq (JC.region ?_))))
    refine JO.py (Py.move xe) ?_
    first | refine JO.py (Py.dec (Py.lss xe ev_const) (by omega)) ?_ | refine JO.py (Py.undec (Py.lss xe ev_const) (by omega)) ?_ | refine JO.py (Py.lss xe ev_const) ?_
    refine JO.nil (JX.code ?_)
    by_cases h4 : d < 4
    · skip
      have hs : slotOf d = d := by unfold slotOf; rw [if_pos h4]
      have hev : distEv sid d = treeEv sid 0 (slotOf d) 6 1 := by unfold distEv; rw [if_pos h4, List.append_nil]
      first | refine JC.condT xe ?_ | refine JC.condT ((xe).trans (vbool (decide_eq_true (by omega)))) ?_
      refine JC.ret (JX.ret ?_)
      rw [hev]
      refine JX.end0 (Or.inl rfl) (()) Tryz.results26 rfl xpkE
    · skip
      obtain ⟨s1, s2, s3, s4, s5⟩ := slotOf_facts (by omega) hd
      obtain ⟨f1, f2, f3, f4⟩ := log2_facts (by omega) hd
      first | refine JC.condF xe ?_ | refine JC.condF ((xe).trans (vbool (decide_eq_false (by omega)))) ?_
      refine JC.skip (JX.code (JC.seq (JC.region ?_)))
      refine JO.py (Py.move xe) ?_
      refine JO.py (Py.quo xe ev_const (by omega) (by omega) (w_i64 (by omega))) ?_
      refine JO.py (Py.sub xe ev_const (w_i64 (by omega))) ?_
      refine JO.py (Py.assign xe) ?_
      refine JO.nil (JX.code (JC.seq (JC.region ?_)))
      refine JO.py (Py.move xe) ?_
      refine JO.py (Py.move xe) ?_
      refine JO.py (Py.mask 1 2 xe ev_const (by decide) (by decide) (by decide) (r_i64 (by omega)) (w_i64 (by omega))) ?_
      refine JO.py (Py.add ev_const xe (w_i64 (by omega))) ?_
      refine JO.py (Py.move xe) ?_
      have hb : slotOf d / 2 - 1 = d.log2 - 1 := by omega
      have hle : (2 + slotOf d % 2) * 2 ^ (d.log2 - 1) ≤ d := by omega
      have he : (2 + (slotOf d : Int) % 2) * 2 ^ (d.log2 - 1) = (((2 + slotOf d % 2) * 2 ^ (d.log2 - 1) : Nat) : Int) := by push_cast; rfl
      refine JO.py (Py.to (Py.shlN (d.log2 - 1) (c := ((2 + slotOf d % 2) * 2 ^ (d.log2 - 1) : Nat)) xe xe (by omega) (by simp only [IntKind.bits]; omega) (by rw [he]; exact w_i64 (by omega))) rfl) ?_
      refine JO.py (Py.to (Py.sub xe xe (w_i64 (by omega))) (v' := .int .i64 ((d % 2 ^ (d.log2 - 1) : Nat) : Int)) (vint (by omega))) ?_
      refine JO.py (Py.assign xe) ?_
      refine JO.nil (JX.code (JC.seq (JC.seq (JC.region ?_))))
      refine JO.py (Py.move xe) ?_
      first | refine JO.py (Py.dec (Py.lss xe ev_const) (by omega)) ?_ | refine JO.py (Py.undec (Py.lss xe ev_const) (by omega)) ?_ | refine JO.py (Py.lss xe ev_const) ?_
      refine JO.nil (JX.code ?_)
      have hr0 := Nat.zero_le (d % 2 ^ (d.log2 - 1))
      have hr1 : d % 2 ^ (d.log2 - 1) ≤ d := Nat.mod_le _ _
      by_cases h14 : slotOf d < 14
      · skip
        have hev : distEv sid d = treeEv sid 0 (slotOf d) 6 1 ++ backEv (7 + slotOf d) 0 (d % 2 ^ (d.log2 - 1)) (d.log2 - 1) 0 1 := by unfold distEv; rw [if_neg h4, if_pos h14]
        have hsp := specCells_get T s3 h14
        have hlen := (hI.p (slotOf d) s3 h14).2
        rw [hb] at hlen
        have hl5 : d.log2 ≤ 6 := by omega
        have hpow : 2 ^ (d.log2 - 1) ≤ 2 ^ 5 := Nat.pow_le_pow_right (by decide) (by omega)
        first | refine JC.condT xe ?_ | refine JC.condT ((xe).trans (vbool (decide_eq_true (by omega)))) ?_
        refine JC.seq (JC.region ?_)
        refine JO.py (Py.move xe) ?_
        refine JO.py (Py.move xe) ?_
        refine JO.py (Py.idxA Tryz.underlying51 siz48 xe xe (by omega) xidx xmult) ?_
        refine JO.py (Py.load scal48 xe xpick xrow) ?_
        refine JO.py (Py.move xe) ?_
        refine JO.py (Py.move xe) ?_
        refine JO.call (Evs.cons xe (Evs.cons xe (Evs.cons xe (Evs.cons xe Evs.nil)))) (back_con G g T hT _ hM1 _ (7 + slotOf d) 0 (d % 2 ^ (d.log2 - 1)) (d.log2 - 1) _ _ (hE1.mono (by omega)) (by omega) (by omega) (hI.p (slotOf d) s3 h14).1 (by omega) (by omega) (by omega) rfl (by omega)) xpkE ?_
        rintro _
        show JO _ _ _ _ _ _ _ ((56, _) :: _) _ (_ :: _ :: _ :: _)
        refine JO.nil (JX.code (JC.ret (JX.ret ?_)))
        rw [hev, Enc.evs_append, evsM_append]
        refine JX.end0 (Or.inl rfl) (()) Tryz.results26 rfl xpkE
      · skip
        have hev : distEv sid d = treeEv sid 0 (slotOf d) 6 1 ++ (evenEv (d % 2 ^ (d.log2 - 1) / 16) (d.log2 - 1 - 4) ++ backEv 10 0 (d % 2 ^ (d.log2 - 1) % 16) 4 0 1) := by unfold distEv; rw [if_neg h4, if_neg h14]
        have hal := hI.a.2
        first | refine JC.condF xe ?_ | refine JC.condF ((xe).trans (vbool (decide_eq_false (by omega)))) ?_
        refine JC.skip (JX.code (JC.seq (JC.region ?_)))
        refine JO.py (Py.move xe) ?_
        refine JO.py (Py.move xe) ?_
        refine JO.py (Py.shr 4 16 xe ev_const rfl (by decide) (by decide) (by decide)) ?_
        refine JO.py (Py.move xe) ?_
        refine JO.py (Py.sub xe ev_const (w_i64 (by omega))) ?_
        refine JO.call (Evs.cons xe (Evs.cons xe (Evs.cons xe Evs.nil))) (even_con G g (d % 2 ^ (d.log2 - 1) / 16) (d.log2 - 1 - 4) _ (hE1.mono (by omega)) (by omega) (by omega) (M := evsM M (treeEv sid 0 (slotOf d) 6 1)) hM1 (by omega) (by omega)) xpkE ?_
        rintro _
        show JO _ _ _ _ _ _ _ ((62, _) :: _) _ (_ :: _ :: _)
        have hM2 : evsM (evsM M (treeEv sid 0 (slotOf d) 6 1)) (evenEv (d % 2 ^ (d.log2 - 1) / 16) (d.log2 - 1 - 4)) = evsM M (treeEv sid 0 (slotOf d) 6 1) := by
          generalize d % 2 ^ (d.log2 - 1) / 16 = a
          generalize d.log2 - 1 - 4 = b
          induction b with
          | zero => rfl
          | succ b ih => exact ih
        have hE2 : Enc.Ok (Enc.evs (evsM M (treeEv sid 0 (slotOf d) 6 1)) (Enc.evs M E (treeEv sid 0 (slotOf d) 6 1)) (evenEv (d % 2 ^ (d.log2 - 1) / 16) (d.log2 - 1 - 4))) 4 := Enc.Ok.evs (hE1.mono (by rw [evenEv_len]; omega)) hM1
        refine JO.nil (JX.code (JC.region ?_))
        refine JO.py (Py.move xe) ?_
        refine JO.py (Py.move xe) ?_
        refine JO.py (Py.move xe) ?_
        refine JO.py (Py.mask 4 16 xe ev_const (by decide) (by decide) (by decide) (r_i64 (by omega)) (w_i64 (by omega))) ?_
        refine JO.call (Evs.cons xe (Evs.cons xe (Evs.cons xe (Evs.cons ev_const Evs.nil)))) (back_con G g T hT _ hM1 _ 10 0 (d % 2 ^ (d.log2 - 1) % 16) 4 _ _ hE2 (by omega) (by omega) hI.a.1 (by omega) (by omega) (by omega) (by omega) (by omega)) xpkE ?_
        rintro _
        show JO _ _ _ _ _ _ _ ((67, _) :: _) _ (_ :: _ :: _ :: _)
        refine JO.nil ?_
        rw [hev, Enc.evs_append, evsM_append, Enc.evs_append, evsM_append, hM2]
        refine JX.end0 (Or.inr rfl) (()) Tryz.results26 rfl xpkE
end Go.Proofs.YtfpepghmbeoanaaGreatDoor
end
