/-
More laws: copy.
More laws: a result that is a variable's whole, slices of arrays.
More laws: interfaces asserted, methods as values, functions that a variable holds, strings.
More laws: a deferred call that finds nothing to recover, append of zeros, rows opened.
! The range coder over plain numbers: what the coder of bits puts, the decoder reads.
The coder of the reference: shift.
The coder of the reference: bits.
The coder of the reference: chances in rows; even bits, trees.
The coder of the reference: even bits, trees.
-/
import Derived.Test.YtfpepghmbeoanaaGreatDoorQ02
import Derived.Laws.CopyRow
import Derived.Laws.IdiomCopy
import Derived.Stop.Asserts
import Derived.Laws.IdiomStrings
import Derived.Laws.Cover3
import Derived.Lib.AppendZeros
import Derived.Lib.ByteType
import Derived.Tactics
import Derived.Tactics2
import Derived.Defers
import Derived.Recover
set_option linter.unusedSimpArgs false
set_option linter.unusedVariables false
section
open Go Go.RowKit
namespace Go.Proofs.YtfpepghmbeoanaaGreatDoor
section
variable {P : Program} {G : Gst} {ops : Array Oper} {Q : Exit → Act → World → Prop} {n : Nat} {base : Nat → Value} {L : List (Nat × Value)} {D : List Deferred} {As r : List Asn}
  {ty : TypeId} {pos : String} {aft : Array Edge} {rest : List Oper}
/-- These values are read from this place on. -/
def Reads (G : Gst) (As : List Asn) (a : Addr) (news : List Value) : Prop := ∀ w, Sat G w As → ∀ j v, news[j]? = some v → w.cell? (a.add j) = some v
theorem Reads.cel {b o : Nat} {T : TypeId} {fr : Nat × Nat} {ss : Array Value} {news : List Value} (q : Pick (blk b (.cells ss T fr)) As r) (h : ∀ j v, news[j]? = some v → ss[o + j]? = some v) : Reads G As ⟨b, o, none⟩ news := by
  intro w hw j v hj
  have : (⟨b, o, none⟩ : Addr).add j = ⟨b, o + j, none⟩ := by unfold Addr.add; split <;> simp_all
  rw [this]
  exact hw.cell q (h j v hj)
theorem Sat.row {w : World} {b : Nat} {T : TypeId} {cs cs' : Array Value} (hw : Sat G w (cel b T cs :: r)) : Sat G (w.setRow b cs') (cel b T cs' :: r) :=
  hw.turn rfl rfl rfl (fun k hk => setRow_other w b k cs' hk) (setRow_heap w b cs cs' T (0, 0) hw.block)
/-- 'copy(dst, src)' into cells of one's own. -/
theorem JO.copy {dT sT e : TypeId} {d : Nat} {x y : Operand} {b o dl dc sl sc m : Nat} {a : Addr} {T : TypeId} {cs cs' : Array Value} {news : List Value}
    (ht : P.underlying dT = some (.slice e)) (hz : (P.info? e).map (·.size) = some 1) (hx : ev n base L x = .slice (some ⟨b, o, none⟩) dl dc) (hy : ev n base L y = .slice (some a) sl sc) (hl : news.length = m) (hm : min sl dl = m)
    (q : Pick (cel b T cs) As r) (hs : Reads G As a news) (hf : o + m ≤ cs.size) (h1 : ∀ v ∈ news, v.oneCell' = true) (hc : (cs.toList.take o ++ news ++ cs.toList.drop (o + m)).toArray = cs')
    (k : JO P G ops Q rest n base ((d, .int .i64 (m : Int)) :: L) D (cel b T cs' :: r)) :
    JO P G ops Q (⟨some d, .call { callee := .builtin .copy, args := #[x, y], argTypes := #[dT, sT] }, ty, pos, aft, none⟩ :: rest) n base L D As := by
  subst hl
  refine ⟨fun w hw => ?_⟩
  refine wpList_plain rfl fun K hK => ?_
  show Oper.upon P _ _ _ _ _
  have hw2 := hw.pick q
  have hr := run_copy_row P w dT sT ty e b o dl dc a sl sc cs T news ht hz hw2.block hm.symm (hs w hw) hf h1
  rw [hc] at hr
  have e : (execOp (frm n base L D).eval ⟨some d, .call { callee := .builtin .copy, args := #[x, y], argTypes := #[dT, sT] }, ty, pos, aft, none⟩).run P w = .ok (.value (.int .i64 (news.length : Int))) (w.setRow b cs') := by
    rw [frm_eval]
    simp [execOp, resolve, Go.invoke, Go.builtin, hx, hy, hr, goInt]
  rw [e]
  show K _ _
  rw [show (frm n base L D).put _ _ = _ from frm_put d _]
  exact hK _ _ (k.run _ hw2.row)
/-- A struct that an interface value holds. -/
theorem Py.asT {xt at_ : TypeId} {x : Operand} {fs : Array Field} {v : Value} (hu : P.underlying at_ = some (.struct fs)) (hx : ev n base L x = .iface at_ v) : Py P G n base L As (.typeAssert x xt at_ true) (.tuple #[v, .bool true]) := by
  refine ⟨fun w _ o ho => ?_⟩
  simp [execOp, ho, hx, Instr.typeAssert, run_underlying hu]
theorem Py.asF {xt at_ t : TypeId} {x : Operand} {fs : Array Field} {v z : Value} (hu : P.underlying at_ = some (.struct fs)) (hz : Zer P at_ z) (hx : ev n base L x = .iface t v) (hn : Nat.beq t at_ = false) : Py P G n base L As (.typeAssert x xt at_ true) (.tuple #[z, .bool false]) := by
  refine ⟨fun w _ o ho => ?_⟩
  have hne : ¬ t = at_ := fun e => by subst e; simp at hn
  simp [execOp, ho, hx, Instr.typeAssert, run_underlying hu, hne, hz w]
/-- A pointer that an interface value holds, against itself. -/
theorem run_eqsame {t tx elem : TypeId} {k : Nat} {ms : Array (String × TypeId)} {a : Addr} (ht : P.underlying t = some (.interface ms)) (hi : (P.info? tx).map (·.comparable) = some true) (hu : P.underlying tx = some (.pointer elem)) (hz : Siz P elem (k + 1)) (w : World) :
    (binOp .eql t (.iface tx (.pointer (some a))) (.iface tx (.pointer (some a)))).run P w = .ok (.bool true) w ∧ (binOp .neq t (.iface tx (.pointer (some a))) (.iface tx (.pointer (some a)))).run P w = .ok (.bool false) w := by
  obtain ⟨i, hi, hc⟩ : ∃ i, P.info? tx = some i ∧ i.comparable = true := by
    cases hq : P.info? tx with
    | none => simp [hq] at hi
    | some i => exact ⟨i, rfl, by simpa [hq] using hi⟩
  have h1 : ∀ d : Nat, (Op.equalIn (d + 1) tx (.pointer (some a)) (.pointer (some a))).run P w = .ok true w := by
    intro d
    simp [Op.equalIn, run_underlying hu, hz w, sameAddr]
  have h : ∀ d : Nat, (Op.equalIn (d + 1 + 1) t (.iface tx (.pointer (some a))) (.iface tx (.pointer (some a)))).run P w = .ok true w := by
    intro d
    rw [Op.equalIn]
    simp [run_underlying ht, typeInfo, hi, hc, h1 d]
  constructor
  · simp only [binOp]; simp [Op.equal, Op.maxDepth, h 9998]
  · simp only [binOp]; simp [Op.equal, Op.maxDepth, h 9998]
theorem Py.neqSame {xt yt tx elem : TypeId} {x y : Operand} {k : Nat} {ms : Array (String × TypeId)} {a : Addr} (ht : P.underlying xt = some (.interface ms)) (hi : (P.info? tx).map (·.comparable) = some true) (hu : P.underlying tx = some (.pointer elem)) (hz : Siz P elem (k + 1)) (hx : ev n base L x = .iface tx (.pointer (some a))) (hy : ev n base L y = .iface tx (.pointer (some a))) :
    Py P G n base L As (.binOp .neq xt x y yt) (.bool false) := by
  refine ⟨fun w _ o ho => ?_⟩
  have hg : (eqGuard .neq xt x y (.iface tx (.pointer (some a))) (.iface tx (.pointer (some a)))).run P w = .ok () w := by simp [eqGuard]
  simp only [execOp, ho, hx, hy, Sem.run_bind, hg, Result.andThen_ok, (run_eqsame ht hi hu hz w).2, Sem.run_pure]
theorem Py.eqlSame {xt yt tx elem : TypeId} {x y : Operand} {k : Nat} {ms : Array (String × TypeId)} {a : Addr} (ht : P.underlying xt = some (.interface ms)) (hi : (P.info? tx).map (·.comparable) = some true) (hu : P.underlying tx = some (.pointer elem)) (hz : Siz P elem (k + 1)) (hx : ev n base L x = .iface tx (.pointer (some a))) (hy : ev n base L y = .iface tx (.pointer (some a))) :
    Py P G n base L As (.binOp .eql xt x y yt) (.bool true) := by
  refine ⟨fun w _ o ho => ?_⟩
  have hg : (eqGuard .eql xt x y (.iface tx (.pointer (some a))) (.iface tx (.pointer (some a)))).run P w = .ok () w := by simp [eqGuard]
  simp only [execOp, ho, hx, hy, Sem.run_bind, hg, Result.andThen_ok, (run_eqsame ht hi hu hz w).1, Sem.run_pure]
end
theorem siz217 : Siz Tryz.prog 217 1 := fun _ => by kernel_rfl
theorem comp215 : (Tryz.prog.info? 215).map (·.comparable) = some true := by kernel_rfl
theorem not_t : (!true) = false := rfl
theorem not_f : (!false) = true := rfl
theorem info5 : (Tryz.prog.info? 5).map (·.size) = some 1 := by kernel_rfl
end Go.Proofs.YtfpepghmbeoanaaGreatDoor
end

section
open Go Go.RowKit
namespace Go.Proofs.YtfpepghmbeoanaaGreatDoor
section
variable {P : Program} {G : Gst} {ops : Array Oper} {Q : Exit → Act → World → Prop} {n : Nat} {base : Nat → Value} {L : List (Nat × Value)} {D : List Deferred} {As r r' : List Asn}
theorem JX.endC1 {fn : Func} {ι : Type} {v : ι → Value} {Post : ι → List Asn} {F : Asn} {e : Exit} {t b k : Nat} {ty : TypeId} {T : TypeId} {fr : Nat × Nat} {cs vs : Array Value} (he : e = .ret ∨ e = .normal) (i : ι) (hr : fn.results = #[.cell t ty]) (ht : ev n base L (.tmp t) = .pointer (some ⟨b, 0, none⟩)) (hs : Aggr P ty k)
    (q0 : Pick (blk b (.cells cs T fr)) As r) (hk : k ≤ cs.size) (hv : cs.extract 0 k = vs) (hv2 : Value.agg vs = v i) (q : Picks (Post i ++ [F]) As r') :
    JX G (bodyPost P fn fun e w' => ∃ i, e = .returned (v i) ∧ Sat G w' (Post i ++ [F])) e n base L [] As :=
  ⟨fun w hw => bodyPost_any he i (u := .agg vs) (by
    have hc := run_loadCells (P := P) (hw.block_of q0) 0 k (by omega)
    rw [Nat.zero_add, hv] at hc
    have hg := getD_ev (D := []) (n := n) (base := base) (L := L) t
    have hg2 : (frm n base L []).tmps[t]?.getD undef = .pointer (some ⟨b, 0, none⟩) := by rw [← ht, ← hg]; simp
    simp only [results, hr]
    simp [hg2, asAddr, loadVar, (hs w).1, (hs w).2, hc]) hv2 q hw⟩
/-- An array as a slice. -/
theorem Py.slcP {t e : TypeId} {x : Operand} {sz b o m : Nat} (ht : P.underlying t = some (.array m e)) (hz : Siz P e sz) (hx : ev n base L x = .pointer (some ⟨b, o, none⟩)) (hm : 0 < m) :
    Py P G n base L As (.slice t x none none none) (.slice (some ⟨b, o, none⟩) m m) := by
  refine ⟨fun w _ o' ho => ?_⟩
  have h0 : ¬ m = 0 := by omega
  simp [execOp, ho, hx, Instr.sliceAt, run_underlying ht, Instr.sureAddr, Instr.sliceBounds, hz w, h0, Addr.add]
end
section
variable {P : Program} {G : Gst} {ops : Array Oper} {Q : Exit → Act → World → Prop} {n : Nat} {base : Nat → Value} {L : List (Nat × Value)} {D : List Deferred} {As r : List Asn}
  {ty : TypeId} {pos : String} {aft : Array Edge} {rest : List Oper}
theorem JO.storeB {t : TypeId} {x y : Operand} {b i m : Nat} {T : TypeId} {cs vs : Array Value} (hz : Siz P t m) (hx : ev n base L x = .pointer (some ⟨b, i, none⟩)) (hy : ev n base L y = .agg vs) (hm : vs.size = m) (h1 : ∀ v ∈ vs.toList, v.oneCell' = true)
    (q : Pick (cel b T cs) As r) (hi : i + vs.size ≤ cs.size) {cs' : Array Value} (hcs : putAll cs i vs.toList = cs') (k : JO P G ops Q rest n base L D (cel b T cs' :: r)) :
    JO P G ops Q (⟨none, .store t x y, ty, pos, aft, none⟩ :: rest) n base L D As := by
  subst hm
  exact JO.storeA hz hx hy h1 q hi hcs k
end
theorem agg260 : Aggr Tryz.prog 260 2 := fun _ => ⟨by kernel_rfl, by kernel_rfl⟩
theorem agg265 : Aggr Tryz.prog 265 2 := fun _ => ⟨by kernel_rfl, by kernel_rfl⟩
end Go.Proofs.YtfpepghmbeoanaaGreatDoor
end

section
open Go Go.RowKit
namespace Go.Proofs.YtfpepghmbeoanaaGreatDoor
section
variable {P : Program} {G : Gst} {ops : Array Oper} {Q : Exit → Act → World → Prop} {n : Nat} {base : Nat → Value} {L : List (Nat × Value)} {D : List Deferred} {As r : List Asn}
  {ty : TypeId} {pos : String} {aft : Array Edge} {rest : List Oper}
theorem Py.asI {xt at_ t : TypeId} {x : Operand} {want : Array (String × TypeId)} {v : Value} (hu : P.underlying at_ = some (.interface want)) (h : (P.info? t).map (fun i => (lacking want i.methods).isEmpty) = some true) (hx : ev n base L x = .iface t v) :
    Py P G n base L As (.typeAssert x xt at_ true) (.tuple #[.iface t v, .bool true]) := by
  refine ⟨fun w _ o ho => ?_⟩
  simp [execOp, ho, hx, run_typeAssert_hasB hu h]
theorem Py.asN {xt at_ t : TypeId} {x : Operand} {want : Array (String × TypeId)} {v z : Value} (hu : P.underlying at_ = some (.interface want)) (h : (P.info? t).map (fun i => (lacking want i.methods).isEmpty) = some false) (hz : (P.info? at_).map (·.zero) = some (some z)) (hx : ev n base L x = .iface t v) :
    Py P G n base L As (.typeAssert x xt at_ true) (.tuple #[z, .bool false]) := by
  refine ⟨fun w _ o ho => ?_⟩
  simp [execOp, ho, hx, run_typeAssert_lacksB hu h hz]
theorem Py.mkM {x : Operand} {name : String} {v : Value} (hx : ev n base L x = v) : Py P G n base L As (.makeFunc (.method name) #[x] #[]) (.func (.method name) #[v] #[]) := by
  refine ⟨fun w _ o ho => ?_⟩
  simp [execOp, ho, hx, Instr.makeFunc]
def NilA (P : Program) (t : TypeId) (v : Value) (name : String) : Prop := ∀ w, (nilAhead (P.types.size + Made.depth) t v name).run P w = .ok (some false) w
theorem Py.nilM {x : Operand} {name : String} {t : TypeId} {v : Value} {cs : Array Value} (h : ev n base L x = .func (.method name) #[.iface t v] cs) (hn : NilA P t v name) : Py P G n base L As (.nilCheck x) (.func (.method name) #[.iface t v] cs) := by
  refine ⟨fun w _ o ho => ?_⟩
  simp [execOp, ho, h, hn w]
/-- A call of a function that a variable holds. -/
theorem JO.callV {f : FuncId} {x : Operand} {xs : List Operand} {ats : Array TypeId} {dst : Option Nat} {args : List Value} {Pre : List Asn} {ι : Type} {v : ι → Value} {Post : ι → List Asn} (hx : ev n base L x = .func (.func f) #[] #[]) (ha : Evs n base L xs args) (h : Con P G f args.toArray Pre v Post)
    (q : Picks Pre As r) (k : ∀ i, JO P G ops Q rest n base (into dst (v i) L) D (Post i ++ r)) :
    JO P G ops Q (⟨dst, .call { callee := .value x, args := xs.toArray, argTypes := ats }, ty, pos, aft, none⟩ :: rest) n base L D As := by
  refine ⟨fun w hw => ?_⟩
  refine wpList_plain rfl fun K hK => ?_
  show Oper.upon P _ _ _ _ _
  have e : (execOp (frm n base L D).eval ⟨dst, .call { callee := .value x, args := xs.toArray, argTypes := ats }, ty, pos, aft, none⟩).run P w = .ok (.enter f args.toArray) w := by
    rw [frm_eval]
    simp [execOp, resolve, ha.map, hx, Deferred.ofValue, Go.invoke, run_callFunc h]
  rw [e]
  refine (h.calls hw q).mono ?_
  rintro e w' ⟨i, rfl, hs⟩
  show K _ _
  rw [show (frm n base L D).put _ _ = _ from frm_into dst _]
  exact hK _ _ ((k i).run w' hs)
/-- Bytes as a string. -/
def strB (l : List Nat) : ByteArray := ⟨(l.map UInt8.ofNat).toArray⟩
theorem Py.str {src dst e : TypeId} {x : Operand} {a : Addr} {m c : Nat} {l : List Nat} (hs : P.underlying src = some (.slice e)) (he : P.underlying e = some (.int .u8)) (hd : P.underlying dst = some .string) (hx : ev n base L x = .slice (some a) m c) (hm : l.length = m) (hb : ∀ v ∈ l, v < 256) (hr : Reads G As a (u8s l)) :
    Py P G n base L As (.convert src dst x) (.string (strB l)) := by
  refine ⟨fun w hw o ho => ?_⟩
  subst hm
  have h := run_convert_bytes_back (P := P) w src dst e a c (l.map UInt8.ofNat) hs he hd (fun j hj => by
    have hj' : j < l.length := by simpa using hj
    have := hr w hw j (vu8 l[j]) (by simp [u8s, hj'])
    rw [this]
    have hlt := hb l[j] (List.getElem_mem hj')
    have : (UInt8.ofNat l[j]).toNat = l[j] := by simp [UInt8.toNat_ofNat']; omega
    simp only [List.getElem_map, this])
  simp only [List.length_map] at h
  simp [execOp, ho, hx, h, strB]
theorem Py.strN {src dst e : TypeId} {x : Operand} (hs : P.underlying src = some (.slice e)) (he : P.underlying e = some (.int .u8)) (hd : P.underlying dst = some .string) (hx : ev n base L x = .slice none 0 0) :
    Py P G n base L As (.convert src dst x) (.string (strB [])) := by
  refine ⟨fun w hw o ho => ?_⟩
  simp [execOp, ho, hx, run_convert_bytes_string w src dst e none 0 0 hs he hd, Conv.bytesToString, strB]
  try rfl
theorem str_beq {a b : List Nat} (ha : ∀ v ∈ a, v < 256) (hb : ∀ v ∈ b, v < 256) : ((strB a).toList == (strB b).toList) = decide (a = b) := by
  rw [ByteArray.toList_eq, ByteArray.toList_eq]
  simp only [strB]
  rw [Bool.eq_iff_iff]
  simp only [beq_iff_eq, decide_eq_true_eq]
  constructor
  · intro h
    have h2 := congrArg (List.map UInt8.toNat) h
    simp only [List.map_map] at h2
    have hid : ∀ l : List Nat, (∀ v ∈ l, v < 256) → l.map (UInt8.toNat ∘ UInt8.ofNat) = l := by
      intro l hl
      conv => rhs; rw [← List.map_id l]
      refine List.map_congr_left fun v hv => ?_
      have := hl v hv
      simp [UInt8.toNat_ofNat']; omega
    rwa [hid a ha, hid b hb] at h2
  · rintro rfl; rfl
theorem Py.streq {t yt : TypeId} {x y : Operand} {a b : ByteArray} {c : Bool} (hx : ev n base L x = .string a) (hy : ev n base L y = .string b) (hc : (a.toList == b.toList) = c) : Py P G n base L As (.binOp .eql t x y yt) (.bool c) := by
  refine ⟨fun w _ o ho => ?_⟩
  subst hc
  have hg : (eqGuard .eql t x y (.string a) (.string b)).run P w = .ok () w := by simp [eqGuard]
  simp only [execOp, ho, hx, hy, Sem.run_bind, hg, Result.andThen_ok]
  simp [binOp, Op.stringOp]
theorem Py.eqlSN {t yt e : TypeId} {x : Operand} {a : Option Addr} {l c : Nat} (ht : P.underlying t = some (.slice e)) (hx : ev n base L x = .slice a l c) : Py P G n base L As (.binOp .eql t x (.const (.slice none 0 0)) yt) (.bool a.isNone) := by
  refine ⟨fun w _ o ho => ?_⟩
  have hg : (eqGuard .eql t x (.const (.slice none 0 0)) (.slice a l c) (.slice none 0 0)).run P w = .ok () w := by simp [eqGuard]
  have h1 : (binOp .eql t (.slice a l c) (.slice none 0 0)).run P w = .ok (.bool a.isNone) w := by
    simp only [binOp]; simp [run_equal_slice_nil w t e a l c ht]
  have hy : ev n base L (.const (.slice none 0 0)) = .slice none 0 0 := rfl
  simp only [execOp, ho, hx, hy, Sem.run_bind, hg, Result.andThen_ok, h1, Sem.run_pure]
/-- A nil function. -/
theorem Py.eqlFN {t yt : TypeId} {x : Operand} {f : FuncId} {ps rs : Array TypeId} {vr : Bool} (ht : P.underlying t = some (.func ps rs vr)) (hx : ev n base L x = .func (.func f) #[] #[]) : Py P G n base L As (.binOp .eql t x (.const .nilFunc) yt) (.bool false) := by
  refine ⟨fun w _ o ho => ?_⟩
  have hg : (eqGuard .eql t x (.const .nilFunc) (.func (.func f) #[] #[]) .nilFunc).run P w = .ok () w := by simp [eqGuard]
  have h1 : (binOp .eql t (.func (.func f) #[] #[]) .nilFunc).run P w = .ok (.bool false) w := by
    have h : ∀ d : Nat, (Op.equalIn (d + 1) t (.func (.func f) #[] #[]) .nilFunc).run P w = .ok false w := fun d => by simp [Op.equalIn, run_underlying ht]
    simp only [binOp]; simp [Op.equal, Op.maxDepth, h 9999]
  have hy : ev n base L (.const .nilFunc) = .nilFunc := rfl
  simp only [execOp, ho, hx, hy, Sem.run_bind, hg, Result.andThen_ok, h1, Sem.run_pure]
end
end Go.Proofs.YtfpepghmbeoanaaGreatDoor
end

section
open Go Go.RowKit Go.Lib
namespace Go.Proofs.YtfpepghmbeoanaaGreatDoor
section
variable {P : Program} {G : Gst} {ops : Array Oper} {Q : Exit → Act → World → Prop} {n : Nat} {base : Nat → Value} {L : List (Nat × Value)} {D : List Deferred} {As r r' : List Asn}
  {ty : TypeId} {pos : String} {aft : Array Edge} {rest : List Oper}
theorem Con.introD {f : FuncId} {fn : Func} {c : Code} {args : List Value} {Pre : List Asn} {ι : Type} {v : ι → Value} {Post : ι → List Asn} (hf : P.funcs[f]? = some fn) (hb : fn.body = some c) (hname : (fn.name == "runtime.NumGoroutine") = false)
    (hn : fn.ntmps = n) (hl : args.length ≤ n) (h : ∀ F : Asn, JC P G (bodyPostD P fn fun e w' => ∃ i, e = .returned (v i) ∧ Sat G w' (Post i ++ [F])) c n L0 (inArgs 0 args) [] (Pre ++ [F])) : Con P G f args.toArray Pre v Post := by
  refine ⟨⟨fn, c, hf, hb, hname⟩, fun F w hw => ?_⟩
  refine calls_of_wp_defers hf hb ?_
  have := frm_enter args hl
  simp only [hn, List.size_toArray] at *
  rw [this]
  exact (h F).run w hw
theorem JO.dfr {f : FuncId} {ats : Array TypeId} (k : JO P G ops Q rest n base L (⟨.fn (.func f) #[], #[]⟩ :: D) As) :
    JO P G ops Q (⟨none, .defer { callee := .value (.func f), args := #[], argTypes := ats }, ty, pos, aft, none⟩ :: rest) n base L D As := by
  refine ⟨fun w hw => ?_⟩
  refine wpList_plain rfl fun K hK => ?_
  show Oper.upon P _ _ _ _ _
  have e : (execOp (frm n base L D).eval ⟨none, .defer { callee := .value (.func f), args := #[], argTypes := ats }, ty, pos, aft, none⟩).run P w = .ok (.defer ⟨.fn (.func f) #[], #[]⟩) w := by
    rw [frm_eval]
    simp [execOp, resolve, ev, Deferred.ofValue]
  rw [e]
  exact hK _ _ (k.run w hw)
theorem JX.endD1 {fn : Func} {ι : Type} {v : ι → Value} {Post : ι → List Asn} {F : Asn} {e : Exit} {t : Nat} {f : FuncId} (he : e = .ret ∨ e = .normal) (i : ι) (hr : fn.results = #[.tmp t]) (hv : ev n base L (.tmp t) = v i)
    (hc : ∀ w, (callFunc f #[]).run P w = .ok (.enter f #[]) w) (hD : ∀ w, CallsD P f #[] .returning w fun e u' w' => e = .returned (.tuple #[]) ∧ u' = .returning ∧ w' = w) (q : Picks (Post i ++ [F]) As r') :
    JX G (bodyPostD P fn fun e w' => ∃ i, e = .returned (v i) ∧ Sat G w' (Post i ++ [F])) e n base L [⟨.fn (.func f) #[], #[]⟩] As := by
  refine ⟨fun w hw => ?_⟩
  have h0 : ∃ u, (results fn (frm n base L []).tmps).run P w = .ok u w ∧ u = v i := by
    refine ⟨_, ?_, hv⟩
    have hg := getD_ev (D := []) (n := n) (base := base) (L := L) t
    simp only [results, hr]
    simp [← hg]
  obtain ⟨u, hr, hu⟩ := h0
  subst hu
  have hs : Sat G w (Post i ++ [F]) := (hw.picks q).of fun hs => by
    obtain ⟨h1, h2, hd, e, ha, _⟩ := stars_append.1 hs
    rw [e]; exact stars_up _ (Hp.le_un h1 h2) ha
  have hL : Leaves P fn (frm n base L []).tmps (fun e w' => ∃ i, e = .returned (v i) ∧ Sat G w' (Post i ++ [F])) [⟨.fn (.func f) #[], #[]⟩] .returning w := by
    refine leaves_cons (f := f) (args := #[]) (by simp) (by simp [Go.invoke, hc]) ?_
    refine (hD w).mono ?_
    rintro e u' w'' ⟨rfl, rfl, rfl⟩
    exact ⟨_, hr, i, rfl, hs⟩
  rcases he with rfl | rfl
  · exact hL
  · exact hL
/-- 'append([]T(nil), make([]T, m)...)'. -/
theorem JO.appZ {t tn e : TypeId} {d : Nat} {x y : Operand} {z : Value} {bytes m : Nat} {kn k' : IntKind} {mi : Int} (ht : P.underlying t = some (.slice e)) (htn : P.underlying tn = some (.int kn)) (he : Elm P e z bytes) (hx : ev n base L x = .slice none 0 0) (hy : ev n base L y = .int k' mi) (hm : mi = (m : Int)) (h0 : 0 < m) (hb : m * bytes ≤ 281474976710656) (h63 : m ≤ 281474976710656)
    (k : ∀ b cap, m ≤ cap → cap < 9223372036854775808 → JO P G ops Q rest n base ((d, .slice (some ⟨b, 0, none⟩) m cap) :: L) D (cel b e (Array.replicate cap z) :: As)) :
    JO P G ops Q (⟨some d, .call { callee := .builtin .append, args := #[x, y], argTypes := #[t, tn] }, ty, pos, aft, none⟩ :: rest) n base L D As := by
  subst hm
  refine ⟨fun w hw => ?_⟩
  refine wpList_plain rfl fun K hK => ?_
  show Oper.upon P _ _ _ _ _
  obtain ⟨i, hi, hz, hs, hib⟩ := he.inf
  have hr := Lib.run_append_nil_zeros (P := P) w t tn ty e i z k' kn ht htn hi hz m h0 (by rw [hs]; decide) (by omega) (by rw [hib]; exact hb)
  have hge : m ≤ grownCap w m 0 e := grownCap_ge w m 0 e
  have hle : grownCap w m 0 e ≤ maxLen := grownCap_le_maxLen w m 0 e (by unfold maxLen; omega)
  have er : (execOp (frm n base L D).eval ⟨some d, .call { callee := .builtin .append, args := #[x, y], argTypes := #[t, tn] }, ty, pos, aft, none⟩).run P w = .ok (.value (.slice (some ⟨w.heap.size, 0, none⟩) m (grownCap w m 0 e))) (w.drew.alloc (.cells (Array.replicate (grownCap w m 0 e) z) e)) := by
    rw [frm_eval]
    have hc : (Builtin.zeroCells z.cells m ++ Builtin.zeroCells z.cells (grownCap w m 0 e - m)) = Array.replicate (grownCap w m 0 e) z := by
      rw [cells_one he.one]
      have h1 : ∀ j, Builtin.zeroCells #[z] j = Array.replicate j z := by
        intro j
        apply Array.ext
        · simp [Builtin.zeroCells]
        · intro a h1 h2; simp [Builtin.zeroCells, Nat.mod_one]
      rw [h1, h1]
      rw [Array.replicate_append_replicate]
      congr 1; omega
    rw [hc] at hr
    simp [execOp, resolve, Go.invoke, Go.builtin, hx, hy, hr]
  rw [er]
  show K _ _
  rw [show (frm n base L D).put _ _ = _ from frm_put d _]
  have hA := hw.drew.alloc (.cells (Array.replicate (grownCap w m 0 e) z) e)
  exact hK _ _ ((k _ _ hge (by unfold maxLen at hle; omega)).run _ hA)
/-! ### Rows opened -/
theorem Sat.unrow {w : World} {e : TypeId} {v : Value} {xs : List Value} (hw : Sat G w (Row e v xs :: r)) (hx : xs ≠ []) : ∃ b cap cur, v = .slice (some ⟨b, 0, none⟩) xs.length cap ∧ xs.length ≤ cap ∧ cap < 9223372036854775808 ∧ cur.size = cap ∧ cur.toList.take xs.length = xs ∧ Sat G w (cel b e cur :: r) := by
  obtain ⟨h1, h2, hd, he, hA, hB⟩ := hw.mem
  rcases hA with ⟨_, h⟩ | ⟨b, cap, cur, hv, hc, hlt, hs, ht, hb⟩
  · exact absurd h hx
  · exact ⟨b, cap, cur, hv, hc, hlt, hs, ht, hw.of fun _ => ⟨h1, h2, hd, he, hb, hB⟩⟩
/-- What a row's block holds. -/
structure RowOf (xs : List Value) (cap : Nat) (cur : Array Value) : Prop where
  le : xs.length ≤ cap
  lt : cap < 9223372036854775808
  size : cur.size = cap
  take : cur.toList.take xs.length = xs
theorem RowOf.get {xs : List Value} {cap : Nat} {cur : Array Value} (h : RowOf xs cap cur) {i : Nat} {v : Value} (hv : xs[i]? = some v) : cur[i]? = some v := by
  have h1 : i < xs.length := (List.getElem?_eq_some_iff.1 hv).1
  have h2 := h.take
  have : (cur.toList.take xs.length)[i]? = some v := by rw [h2]; exact hv
  rw [List.getElem?_take_of_lt h1] at this
  simpa using this
theorem JO.unrow {e : TypeId} {v : Value} {xs : List Value} {l : List Oper} (q : Pick (Row e v xs) As r) (hx : xs ≠ []) (k : ∀ b cap cur, v = .slice (some ⟨b, 0, none⟩) xs.length cap → RowOf xs cap cur → JO P G ops Q l n base L D (cel b e cur :: r)) : JO P G ops Q l n base L D As :=
  ⟨fun w hw => by obtain ⟨b, cap, cur, hv, h1, h2, h3, h4, hs⟩ := (hw.pick q).unrow hx; exact (k b cap cur hv ⟨h1, h2, h3, h4⟩).run w hs⟩
theorem JC.unrow {e : TypeId} {v : Value} {xs : List Value} {l : Code} (q : Pick (Row e v xs) As r) (hx : xs ≠ []) (k : ∀ b cap cur, v = .slice (some ⟨b, 0, none⟩) xs.length cap → RowOf xs cap cur → JC P G Q l n base L D (cel b e cur :: r)) : JC P G Q l n base L D As :=
  ⟨fun w hw => by obtain ⟨b, cap, cur, hv, h1, h2, h3, h4, hs⟩ := (hw.pick q).unrow hx; exact (k b cap cur hv ⟨h1, h2, h3, h4⟩).run w hs⟩
theorem JX.unrow {e : TypeId} {v : Value} {xs : List Value} {l : Exit} (q : Pick (Row e v xs) As r) (hx : xs ≠ []) (k : ∀ b cap cur, v = .slice (some ⟨b, 0, none⟩) xs.length cap → RowOf xs cap cur → JX G Q l n base L D (cel b e cur :: r)) : JX G Q l n base L D As :=
  ⟨fun w hw => by obtain ⟨b, cap, cur, hv, h1, h2, h3, h4, hs⟩ := (hw.pick q).unrow hx; exact (k b cap cur hv ⟨h1, h2, h3, h4⟩).run w hs⟩
theorem row_mk {b e m cap : Nat} {cur : Array Value} {xs : List Value} (hr : RowOf xs cap cur) (hl : xs.length = m) {hp : Hp} (hc : cel b e cur hp) : Row e (.slice (some ⟨b, 0, none⟩) m cap) xs hp := by
  subst hl
  exact Or.inr ⟨b, cap, cur, rfl, hr.le, hr.lt, hr.size, hr.take, hc⟩
theorem Sat.torow {w : World} {b e m cap : Nat} {cur : Array Value} {xs : List Value} (hw : Sat G w (cel b e cur :: r)) (hr : RowOf xs cap cur) (hl : xs.length = m) : Sat G w (Row e (.slice (some ⟨b, 0, none⟩) m cap) xs :: r) :=
  hw.of fun hs => by obtain ⟨h1, h2, hd, he, ha, hb⟩ := hs; exact ⟨h1, h2, hd, he, row_mk hr hl ha, hb⟩
theorem JO.torow {b e m cap : Nat} {cur : Array Value} {xs : List Value} {l : List Oper} (q : Pick (cel b e cur) As r) (hr : RowOf xs cap cur) (hl : xs.length = m) (k : JO P G ops Q l n base L D (Row e (.slice (some ⟨b, 0, none⟩) m cap) xs :: r)) : JO P G ops Q l n base L D As :=
  ⟨fun w hw => k.run w ((hw.pick q).torow hr hl)⟩
theorem JC.torow {b e m cap : Nat} {cur : Array Value} {xs : List Value} {l : Code} (q : Pick (cel b e cur) As r) (hr : RowOf xs cap cur) (hl : xs.length = m) (k : JC P G Q l n base L D (Row e (.slice (some ⟨b, 0, none⟩) m cap) xs :: r)) : JC P G Q l n base L D As :=
  ⟨fun w hw => k.run w ((hw.pick q).torow hr hl)⟩
theorem JX.torow {b e m cap : Nat} {cur : Array Value} {xs : List Value} {l : Exit} (q : Pick (cel b e cur) As r) (hr : RowOf xs cap cur) (hl : xs.length = m) (k : JX G Q l n base L D (Row e (.slice (some ⟨b, 0, none⟩) m cap) xs :: r)) : JX G Q l n base L D As :=
  ⟨fun w hw => k.run w ((hw.pick q).torow hr hl)⟩
/-- What is behind the row's end may be anything. -/
theorem RowOf.set {xs : List Value} {cap i : Nat} {cur : Array Value} {v : Value} (h : RowOf xs cap cur) (hi : i < xs.length) : RowOf (xs.set i v) cap (cur.setIfInBounds i v) := by
  refine ⟨by simpa using h.le, h.lt, by simp [h.size], ?_⟩
  rw [List.length_set, Array.toList_setIfInBounds, List.take_set, h.take]
theorem RowOf.set_end {xs : List Value} {cap l : Nat} {cur : Array Value} {v : Value} (h : RowOf xs cap cur) (hl : xs.length = l) (hi : l < cap) : RowOf (xs ++ [v]) cap (cur.setIfInBounds l v) := by
  subst hl
  refine ⟨by simp; omega, h.lt, by simp [h.size], ?_⟩
  rw [List.length_append, List.length_singleton, Array.toList_setIfInBounds, List.take_set, List.take_add_one, h.take]
  have hs : xs.length < cur.toList.length := by rw [Array.length_toList (xs := cur), h.size]; exact hi
  rw [List.getElem?_eq_getElem hs]
  simp
theorem RowOf.grow {xs : List Value} {cap : Nat} {cur : Array Value} {v : Value} (h : RowOf xs cap cur) (hl : xs.length < cap) (hv : cur[xs.length]? = some v) : RowOf (xs ++ [v]) cap cur := by
  refine ⟨by simp; omega, h.lt, h.size, ?_⟩
  rw [List.length_append, List.length_singleton, List.take_add_one, h.take]
  congr 1
  rw [← Array.getElem?_toList] at hv
  rw [hv]; rfl
end
theorem catch_idle (w : World) : CallsD Tryz.prog 96 #[] .returning w fun e u' w' => e = .returned (.tuple #[]) ∧ u' = .returning ∧ w' = w := by
  have hnn : ∀ w, (binOp .neq 20 .nilIface .nilIface).run Tryz.prog w = .ok (.bool false) w := fun w => Go.Lib.run_neq_nil_nil w Tryz.underlying20
  refine callsD_of_wpS Tryz.func96 rfl fun c₀ cs hu => ?_
  apply wpS_seq
  apply wpS_region
  simp [wpOpsS, go_sem, recoverD, hu, hnn, Tryz.ntmps96, Exit.thenS]
  refine wpS_cond (t := false) (by simp [Act.eval, Array.replicate]) ?_
  simp only [Bool.false_eq_true, if_false]
  refine wpS_of_wp (wp_skip ?_)
  cases c₀
  simp_all [bodyPostS, results, Tryz.results96]
end Go.Proofs.YtfpepghmbeoanaaGreatDoor
end

section
namespace Lz

/-- What is coded: a bit by the chance at place ix of row id, or an even bit. -/
inductive Ev where
  | bit (id ix : Nat) (b : Bool)
  | even (b : Bool)
deriving DecidableEq

abbrev PM := Nat → Nat → Nat

def updP (p : Nat) (b : Bool) : Nat := if b then p - p / 32 else p + (2048 - p) / 32
def upd (M : PM) (id ix : Nat) (b : Bool) : PM := fun i j => if i = id ∧ j = ix then updP (M id ix) b else M i j
def PMok (M : PM) : Prop := ∀ i j, 31 ≤ M i j ∧ M i j ≤ 2017
def evM (M : PM) : Ev → PM
  | .bit id ix b => upd M id ix b
  | .even _ => M

theorem updP_ok {p : Nat} (b : Bool) (h : 31 ≤ p ∧ p ≤ 2017) : 31 ≤ updP p b ∧ updP p b ≤ 2017 := by
  unfold updP
  cases b
  · simp only [Bool.false_eq_true, if_false]; omega
  · simp only [if_true]; omega
theorem upd_ok {M : PM} (h : PMok M) (id ix : Nat) (b : Bool) : PMok (upd M id ix b) := by
  intro i j
  unfold upd
  split
  · exact updP_ok b (h id ix)
  · exact h i j
theorem evM_ok {M : PM} (h : PMok M) (e : Ev) : PMok (evM M e) := by
  cases e with
  | bit id ix b => exact upd_ok h id ix b
  | even b => exact h
def evsM (M : PM) (l : List Ev) : PM := l.foldl evM M
theorem evsM_ok {M : PM} (h : PMok M) (l : List Ev) : PMok (evsM M l) := by
  induction l generalizing M with
  | nil => exact h
  | cons e l ih => exact ih (evM_ok h e)
theorem evsM_append (M : PM) (a b : List Ev) : evsM M (a ++ b) = evsM (evsM M a) b := by simp [evsM]

structure Enc where
  low : Nat
  span : Nat
  cache : Nat
  held : Nat
  out : List Nat

def Enc.shift (E : Enc) : Enc :=
  if E.low % 4294967296 < 4278190080 ∨ 4294967296 ≤ E.low then
    { low := E.low % 16777216 * 256, span := E.span, cache := E.low / 16777216 % 256, held := 1,
      out := E.out ++ ((E.cache + E.low / 4294967296) % 256 :: List.replicate (E.held - 1) ((255 + E.low / 4294967296) % 256)) }
  else { low := E.low % 16777216 * 256, span := E.span, cache := E.cache, held := E.held + 1, out := E.out }
def Enc.norm (E : Enc) : Enc := if E.span < 16777216 then ({ E with span := E.span * 256 }).shift else E
def Enc.pre (E : Enc) (p : Nat) (b : Bool) : Enc :=
  if b then { E with low := E.low + E.span / 2048 * p, span := E.span - E.span / 2048 * p } else { E with span := E.span / 2048 * p }
def Enc.preE (E : Enc) (b : Bool) : Enc := if b then { E with low := E.low + E.span / 2, span := E.span / 2 } else { E with span := E.span / 2 }
def Enc.bit (E : Enc) (p : Nat) (b : Bool) : Enc := (E.pre p b).norm
def Enc.even (E : Enc) (b : Bool) : Enc := (E.preE b).norm
def Enc.ev (M : PM) (E : Enc) : Ev → Enc
  | .bit id ix b => E.bit (M id ix) b
  | .even b => E.even b
def Enc.evs : PM → Enc → List Ev → Enc
  | _, E, [] => E
  | M, E, e :: l => Enc.evs (evM M e) (E.ev M e) l
theorem Enc.evs_append (M : PM) (E : Enc) (a b : List Ev) : Enc.evs M E (a ++ b) = Enc.evs (evsM M a) (Enc.evs M E a) b := by
  induction a generalizing M E with
  | nil => rfl
  | cons e a ih => simp only [List.cons_append, Enc.evs, ih]; rfl
def Enc.start : Enc := { low := 0, span := 4294967295, cache := 0, held := 1, out := [] }

def num (l : List Nat) : Nat := l.foldl (fun a x => a * 256 + x) 0
theorem foldl_num (l : List Nat) : ∀ a, l.foldl (fun a x => a * 256 + x) a = a * 256 ^ l.length + num l := by
  induction l with
  | nil => intro a; simp [num]
  | cons x l ih =>
    intro a
    have h1 := ih (a * 256 + x)
    have h2 := ih (0 * 256 + x)
    simp only [List.foldl_cons, List.length_cons, num] at *
    rw [h1, h2, Nat.pow_succ]
    simp only [Nat.zero_mul, Nat.zero_add, Nat.add_mul, Nat.mul_assoc, Nat.mul_comm 256, Nat.add_assoc]
theorem num_append (a b : List Nat) : num (a ++ b) = num a * 256 ^ b.length + num b := by
  unfold num; rw [List.foldl_append, foldl_num]; rfl
theorem num_cons (x : Nat) (l : List Nat) : num (x :: l) = x * 256 ^ l.length + num l := by
  have := num_append [x] l
  simpa [num] using this
theorem num_nil : num [] = 0 := rfl
theorem num_lt (l : List Nat) (h : ∀ x ∈ l, x < 256) : num l < 256 ^ l.length := by
  induction l with
  | nil => simp [num]
  | cons x l ih =>
    rw [num_cons, List.length_cons, Nat.pow_succ]
    have h1 := ih (fun y hy => h y (List.mem_cons_of_mem _ hy))
    have h2 : x < 256 := h x (by simp)
    have : (x + 1) * 256 ^ l.length ≤ 256 * 256 ^ l.length := Nat.mul_le_mul_right _ (by omega)
    rw [Nat.add_mul] at this
    rw [Nat.mul_comm _ 256]; omega
theorem num_ff (k : Nat) : num (List.replicate k 255) + 1 = 256 ^ k := by
  induction k with
  | zero => simp [num]
  | succ k ih => rw [List.replicate_succ, num_cons, List.length_replicate, Nat.pow_succ]; omega
theorem num_zeros (k : Nat) : num (List.replicate k 0) = 0 := by
  induction k with
  | zero => rfl
  | succ k ih => rw [List.replicate_succ, num_cons, ih]; omega

/-- The whole number that stands in the coder. -/
def Enc.B (E : Enc) : Nat := num (E.out ++ E.cache :: List.replicate (E.held - 1) 255)
def Enc.V (E : Enc) : Nat := E.B * 4294967296 + E.low
def Enc.cnt (E : Enc) : Nat := E.out.length + E.held
/-- s: how wide the span is (or less). -/
structure Enc.Inv (E : Enc) (s : Nat) : Prop where
  held : 1 ≤ E.held
  cache : E.cache < 256
  bytes : ∀ x ∈ E.out, x < 256
  pos : 1 ≤ s
  low : E.low + s ≤ 8589934592
  room : E.V + s ≤ (num E.out + 1) * 256 ^ E.held * 4294967296

theorem Enc.B_eq (E : Enc) (h : 1 ≤ E.held) : E.B + 1 = num E.out * 256 ^ E.held + (E.cache + 1) * 256 ^ (E.held - 1) := by
  unfold Enc.B
  rw [num_append, num_cons]
  simp only [List.length_cons, List.length_replicate]
  have h1 := num_ff (E.held - 1)
  have h2 : E.held - 1 + 1 = E.held := by omega
  rw [h2, Nat.add_mul]
  omega

theorem Enc.Inv.mono {E : Enc} {s s' : Nat} (h : E.Inv s) (h1 : 1 ≤ s') (h2 : s' ≤ s) : E.Inv s' :=
  ⟨h.held, h.cache, h.bytes, h1, by have := h.low; omega, by have := h.room; omega⟩

theorem Enc.shift_spec {E : Enc} {s : Nat} (h : E.Inv s) (hs : s ≤ 16777216) :
    (E.shift).V = 256 * E.V ∧ (E.shift).cnt = E.cnt + 1 ∧ (E.shift).Inv (256 * s) := by
  have hB := E.B_eq h.held
  have hlow := h.low
  have hroom := h.room
  have hpos := h.pos
  have hheld := h.held
  have hcache := h.cache
  by_cases hc : E.low % 4294967296 < 4278190080 ∨ 4294967296 ≤ E.low
  · have e : E.shift = { low := E.low % 16777216 * 256, span := E.span, cache := E.low / 16777216 % 256, held := 1, out := E.out ++ ((E.cache + E.low / 4294967296) % 256 :: List.replicate (E.held - 1) ((255 + E.low / 4294967296) % 256)) } := by
      unfold Enc.shift; rw [if_pos hc]
    have hc1 : E.low / 4294967296 ≤ 1 := by omega
    -- the value of the bytes that are put out
    have hout : num (E.shift).out = E.B + E.low / 4294967296 ∧ (∀ x ∈ (E.shift).out, x < 256) ∧ (E.shift).out.length = E.out.length + E.held := by
      rw [e]
      simp only
      refine ⟨?_, ?_, by simp; omega⟩
      · by_cases hz : E.low / 4294967296 = 0
        · rw [hz]
          simp only [Nat.add_zero]
          rw [Nat.mod_eq_of_lt hcache]
          rfl
        · have h1 : E.low / 4294967296 = 1 := by omega
          rw [h1]
          have hx : E.cache + 1 < 256 := by
            have h2 : (E.B + 1) * 4294967296 < (num E.out + 1) * 256 ^ E.held * 4294967296 := by
              have : E.V = E.B * 4294967296 + E.low := rfl
              omega
            have h3 : E.B + 1 < (num E.out + 1) * 256 ^ E.held := Nat.lt_of_mul_lt_mul_right h2
            rw [hB, Nat.add_mul (num E.out), Nat.one_mul] at h3
            have h4 : (E.cache + 1) * 256 ^ (E.held - 1) < 256 ^ E.held := by
              generalize (E.cache + 1) * 256 ^ (E.held - 1) = x1 at *
              generalize num E.out * 256 ^ E.held = x2 at *
              generalize 256 ^ E.held = x3 at *
              omega
            have h5 : 256 ^ E.held = 256 * 256 ^ (E.held - 1) := by
              rw [show E.held = (E.held - 1) + 1 from by omega, Nat.pow_succ]; simp [Nat.mul_comm]
            rw [h5] at h4
            exact Nat.lt_of_mul_lt_mul_right h4
          rw [Nat.mod_eq_of_lt hx]
          rw [num_append, num_cons]
          have e2 : (255 + 1) % 256 = 0 := rfl
          rw [e2, num_zeros]
          simp only [List.length_cons, List.length_replicate, Nat.add_zero]
          rw [hB, show E.held - 1 + 1 = E.held from by omega]
      · intro x hx
        simp only [List.mem_append, List.mem_cons, List.mem_replicate] at hx
        rcases hx with hx | hx | hx
        · exact h.bytes x hx
        · omega
        · omega
    obtain ⟨ho1, ho2, ho3⟩ := hout
    have eB : (E.shift).B = num (E.shift).out * 256 + E.low / 16777216 % 256 := by
      unfold Enc.B
      rw [num_append, e]
      simp [num]
    have eV : (E.shift).V = 256 * E.V := by
      unfold Enc.V
      rw [eB, ho1]
      have : (E.shift).low = E.low % 16777216 * 256 := by rw [e]
      rw [this]
      omega
    refine ⟨eV, by unfold Enc.cnt; rw [ho3, e], ?_⟩
    refine ⟨by rw [e]; simp, by rw [e]; simp only; omega, ho2, by omega, by rw [e]; simp only; omega, ?_⟩
    rw [eV, ho1]
    have : (E.shift).held = 1 := by rw [e]
    rw [this]
    have : E.V = E.B * 4294967296 + E.low := rfl
    rw [this]
    omega
  · have e : E.shift = { low := E.low % 16777216 * 256, span := E.span, cache := E.cache, held := E.held + 1, out := E.out } := by
      unfold Enc.shift; rw [if_neg hc]
    have hh : E.held + 1 - 1 = (E.held - 1) + 1 := by omega
    have eB : (E.shift).B = E.B * 256 + 255 := by
      unfold Enc.B
      rw [e]
      simp only
      rw [hh, List.replicate_succ', ← List.cons_append, ← List.append_assoc, num_append]
      simp [num]
    have eV : (E.shift).V = 256 * E.V := by
      unfold Enc.V
      rw [eB]
      have : (E.shift).low = E.low % 16777216 * 256 := by rw [e]
      rw [this]
      omega
    refine ⟨eV, by unfold Enc.cnt; rw [e]; simp only; omega, ?_⟩
    refine ⟨by rw [e]; simp, by rw [e]; exact hcache, by rw [e]; exact h.bytes, by omega, by rw [e]; simp only; omega, ?_⟩
    rw [eV]
    have e1 : (E.shift).held = E.held + 1 := by rw [e]
    have e2 : (E.shift).out = E.out := by rw [e]
    rw [e1, e2, Nat.pow_succ]
    have : (num E.out + 1) * (256 ^ E.held * 256) * 4294967296 = 256 * ((num E.out + 1) * 256 ^ E.held * 4294967296) := by
      rw [← Nat.mul_assoc]
      generalize (num E.out + 1) * 256 ^ E.held = t
      omega
    rw [this]
    omega

/-- A step of normalising: how often (0 or 1) it shifts. -/
def Enc.k (E : Enc) : Nat := if E.span < 16777216 then 1 else 0
theorem Enc.norm_spec {E : Enc} (h : E.Inv E.span) (hlo : 65536 ≤ E.span) (hhi : E.span < 4294967296) :
    (E.norm).V = 256 ^ E.k * E.V ∧ (E.norm).cnt = E.cnt + E.k ∧ (E.norm).Inv (E.norm).span ∧ (E.norm).span = 256 ^ E.k * E.span ∧ 16777216 ≤ (E.norm).span ∧ (E.norm).span < 4294967296 := by
  unfold Enc.norm Enc.k
  by_cases hc : E.span < 16777216
  · simp only [if_pos hc, Nat.pow_one]
    have h' : ({ E with span := E.span * 256 } : Enc).Inv E.span := ⟨h.held, h.cache, h.bytes, h.pos, h.low, h.room⟩
    obtain ⟨a, b, c⟩ := Enc.shift_spec h' (by omega)
    have hsp : (({ E with span := E.span * 256 } : Enc).shift).span = E.span * 256 := by unfold Enc.shift; split <;> rfl
    refine ⟨a, b, ?_, by rw [hsp]; omega, by rw [hsp]; omega, by rw [hsp]; omega⟩
    rw [hsp, Nat.mul_comm E.span]; simpa [Nat.mul_comm] using c
  · simp only [if_neg hc, Nat.pow_zero, Nat.one_mul, Nat.add_zero]
    exact ⟨trivial, trivial, h, trivial, by omega, hhi⟩

/-- How far an event goes up, and how wide it leaves the span. -/
def evOff (M : PM) (r : Nat) : Ev → Nat
  | .bit id ix b => if b then r / 2048 * M id ix else 0
  | .even b => if b then r / 2 else 0
def evWid (M : PM) (r : Nat) : Ev → Nat
  | .bit id ix b => if b then r - r / 2048 * M id ix else r / 2048 * M id ix
  | .even _ => r / 2
theorem evWid_spec {M : PM} (hM : PMok M) {r : Nat} (hr : 16777216 ≤ r) (hr2 : r < 4294967296) (e : Ev) : 65536 ≤ evWid M r e ∧ evOff M r e + evWid M r e ≤ r := by
  cases e with
  | bit id ix b =>
    have h := hM id ix
    have h1 : r / 2048 * 31 ≤ r / 2048 * M id ix := Nat.mul_le_mul_left _ h.1
    have h2 : r / 2048 * M id ix ≤ r / 2048 * 2017 := Nat.mul_le_mul_left _ h.2
    unfold evWid evOff
    cases b
    · simp only [Bool.false_eq_true, if_false]; omega
    · simp only [if_true]; omega
  | even b => unfold evWid evOff; cases b <;> simp <;> omega
def evK (M : PM) (r : Nat) (e : Ev) : Nat := if evWid M r e < 16777216 then 1 else 0

theorem Enc.ev_spec {M : PM} (hM : PMok M) {E : Enc} (h : E.Inv E.span) (hlo : 16777216 ≤ E.span) (hhi : E.span < 4294967296) (e : Ev) :
    (E.ev M e).V = 256 ^ evK M E.span e * (E.V + evOff M E.span e) ∧ (E.ev M e).cnt = E.cnt + evK M E.span e ∧ (E.ev M e).Inv (E.ev M e).span ∧
    (E.ev M e).span = 256 ^ evK M E.span e * evWid M E.span e ∧ 16777216 ≤ (E.ev M e).span ∧ (E.ev M e).span < 4294967296 := by
  obtain ⟨w1, w2⟩ := evWid_spec hM hlo hhi e
  -- the state ahead of normalising
  have key : ∃ E1 : Enc, E.ev M e = E1.norm ∧ E1.low = E.low + evOff M E.span e ∧ E1.span = evWid M E.span e ∧ E1.cache = E.cache ∧ E1.held = E.held ∧ E1.out = E.out := by
    cases e with
    | bit id ix b =>
      refine ⟨E.pre (M id ix) b, rfl, ?_⟩
      unfold Enc.pre evOff evWid
      cases b <;> simp
    | even b =>
      refine ⟨E.preE b, rfl, ?_⟩
      unfold Enc.preE evOff evWid
      cases b <;> simp
  obtain ⟨E1, e0, e1, e2, e3, e4, e5⟩ := key
  have eB : E1.B = E.B := by unfold Enc.B; rw [e3, e4, e5]
  have eV : E1.V = E.V + evOff M E.span e := by unfold Enc.V; rw [eB, e1]; omega
  have hI : E1.Inv E1.span := by
    refine ⟨by rw [e4]; exact h.held, by rw [e3]; exact h.cache, by rw [e5]; exact h.bytes, by omega, by have := h.low; omega, ?_⟩
    rw [eV, e5, e4, e2]; have := h.room; omega
  have hk : E1.k = evK M E.span e := by unfold Enc.k evK; rw [e2]
  obtain ⟨a, b, c, d, f, g⟩ := Enc.norm_spec hI (by omega) (by omega)
  rw [e0]
  refine ⟨by rw [a, hk, eV], by rw [b, hk]; unfold Enc.cnt; rw [e5, e4], c, by rw [d, hk, e2], f, g⟩

theorem Enc.evs_spec (l : List Ev) : ∀ {M : PM} (_ : PMok M) {E : Enc} (_ : E.Inv E.span) (_ : 16777216 ≤ E.span) (_ : E.span < 4294967296),
    ∃ n, (Enc.evs M E l).cnt = E.cnt + n ∧ E.V * 256 ^ n ≤ (Enc.evs M E l).V ∧ (Enc.evs M E l).V + (Enc.evs M E l).span ≤ (E.V + E.span) * 256 ^ n ∧ n ≤ l.length ∧
      (Enc.evs M E l).Inv (Enc.evs M E l).span ∧ 16777216 ≤ (Enc.evs M E l).span ∧ (Enc.evs M E l).span < 4294967296 := by
  induction l with
  | nil => intro M hM E h h1 h2; exact ⟨0, rfl, by simp [Enc.evs], by simp [Enc.evs], Nat.le_refl _, h, h1, h2⟩
  | cons e l ih =>
    intro M hM E h h1 h2
    obtain ⟨a, b, c, d, f, g⟩ := Enc.ev_spec hM h h1 h2 e
    obtain ⟨w1, w2⟩ := evWid_spec hM h1 h2 e
    obtain ⟨n, p, q, r, u, v⟩ := ih (evM_ok hM e) c f g
    have hk1 : evK M E.span e ≤ 1 := by unfold evK; split <;> omega
    refine ⟨n + evK M E.span e, by simp only [Enc.evs]; omega, ?_, ?_, by simp; omega, v⟩
    · simp only [Enc.evs]
      refine Nat.le_trans ?_ q
      rw [a, Nat.pow_add]
      have : E.V ≤ E.V + evOff M E.span e := by omega
      calc E.V * (256 ^ n * 256 ^ evK M E.span e) = (256 ^ evK M E.span e * E.V) * 256 ^ n := by rw [Nat.mul_comm (256 ^ evK M E.span e) E.V, Nat.mul_assoc, Nat.mul_comm (256 ^ n)]
        _ ≤ _ := Nat.mul_le_mul_right _ (Nat.mul_le_mul_left _ this)
    · simp only [Enc.evs]
      refine Nat.le_trans r ?_
      rw [a, d, ← Nat.mul_add, Nat.pow_add]
      have : E.V + evOff M E.span e + evWid M E.span e ≤ E.V + E.span := by omega
      calc 256 ^ evK M E.span e * (E.V + evOff M E.span e + evWid M E.span e) * 256 ^ n ≤ 256 ^ evK M E.span e * (E.V + E.span) * 256 ^ n := Nat.mul_le_mul_right _ (Nat.mul_le_mul_left _ this)
        _ = _ := by rw [Nat.mul_comm (256 ^ evK M E.span e), Nat.mul_assoc, Nat.mul_comm (256 ^ n)]

/-! ### The decoder -/
/-- The bytes rb tell the events evs to a decoder with range r and code c. -/
def DecOK : PM → Nat → Nat → List Nat → List Ev → Prop
  | _, _, c, rb, [] => c = 0 ∧ rb = []
  | M, r, c, rb, e :: l =>
    (16777216 ≤ r ∧ r < 4294967296) ∧ evOff M r e ≤ c ∧ c < evOff M r e + evWid M r e ∧
      if evWid M r e < 16777216 then ∃ x rb', rb = x :: rb' ∧ x < 256 ∧ DecOK (evM M e) (evWid M r e * 256) ((c - evOff M r e) * 256 + x) rb' l
      else DecOK (evM M e) (evWid M r e) (c - evOff M r e) rb l

theorem dec_ok (l : List Ev) : ∀ {M : PM} (_ : PMok M) {E : Enc} (_ : E.Inv E.span) (_ : 16777216 ≤ E.span) (_ : E.span < 4294967296) (c : Nat) (rb : List Nat) (_ : ∀ x ∈ rb, x < 256),
    (Enc.evs M E l).cnt = E.cnt + rb.length → (E.V + c) * 256 ^ rb.length + num rb = (Enc.evs M E l).V → DecOK M E.span c rb l := by
  induction l with
  | nil =>
    intro M hM E h h1 h2 c rb hrb hn hV
    have : rb = [] := by simpa [Enc.evs] using hn
    subst this
    simp [Enc.evs, num] at hV
    exact ⟨hV, rfl⟩
  | cons e l ih =>
    intro M hM E h h1 h2 c rb hrb hn hV
    obtain ⟨a, b, c', d, f, g⟩ := Enc.ev_spec hM h h1 h2 e
    obtain ⟨w1, w2⟩ := evWid_spec hM h1 h2 e
    obtain ⟨n, p, q, r, u, v⟩ := Enc.evs_spec l (evM_ok hM e) c' f g
    simp only [Enc.evs] at hn hV
    have hk1 : evK M E.span e ≤ 1 := by unfold evK; split <;> omega
    have hlen : rb.length = evK M E.span e + n := by omega
    have hnum := num_lt rb hrb
    have hpos : 0 < 256 ^ rb.length := Nat.pow_pos (by omega)
    -- the bounds on c
    have e1 : (Enc.ev M E e).V * 256 ^ n = (E.V + evOff M E.span e) * 256 ^ rb.length := by
      rw [a, hlen, Nat.pow_add, Nat.mul_comm (256 ^ evK M E.span e), Nat.mul_assoc]
    have e2 : ((Enc.ev M E e).V + (Enc.ev M E e).span) * 256 ^ n = (E.V + evOff M E.span e + evWid M E.span e) * 256 ^ rb.length := by
      rw [a, d, ← Nat.mul_add, hlen, Nat.pow_add, Nat.mul_comm (256 ^ evK M E.span e), Nat.mul_assoc]
    have hlo : evOff M E.span e ≤ c := by
      rw [e1, ← hV] at q
      have : (E.V + evOff M E.span e) * 256 ^ rb.length < (E.V + c + 1) * 256 ^ rb.length := by rw [Nat.add_mul (E.V + c)]; omega
      have := Nat.lt_of_mul_lt_mul_right this
      omega
    have hhi : c < evOff M E.span e + evWid M E.span e := by
      rw [e2, ← hV] at r
      have hs : 0 < (Enc.evs (evM M e) (E.ev M e) l).span := by omega
      have : (E.V + c) * 256 ^ rb.length < (E.V + evOff M E.span e + evWid M E.span e) * 256 ^ rb.length := by omega
      have := Nat.lt_of_mul_lt_mul_right this
      omega
    refine ⟨⟨h1, h2⟩, hlo, hhi, ?_⟩
    by_cases hc : evWid M E.span e < 16777216
    · rw [if_pos hc]
      have hk : evK M E.span e = 1 := by unfold evK; rw [if_pos hc]
      rw [hk] at a b d hlen
      obtain ⟨x, rb', rfl⟩ : ∃ x rb', rb = x :: rb' := by
        cases rb with
        | nil => simp at hlen; omega
        | cons x rb' => exact ⟨x, rb', rfl⟩
      · refine ⟨x, rb', rfl, hrb x (by simp), ?_⟩
        have hsp : (E.ev M e).span = evWid M E.span e * 256 := by rw [d]; omega
        rw [← hsp]
        simp only [List.length_cons] at hn hlen hV
        refine ih (evM_ok hM e) c' f g _ _ (fun y hy => hrb y (by simp [hy])) (by omega) ?_
        rw [← hV, num_cons, a, show (256 : Nat) ^ 1 = 256 from rfl, show 256 ^ (rb'.length + 1) = 256 ^ rb'.length * 256 from Nat.pow_succ ..]
        have : E.V + c = E.V + evOff M E.span e + (c - evOff M E.span e) := by omega
        rw [this]
        generalize E.V + evOff M E.span e = s
        generalize c - evOff M E.span e = t
        generalize 256 ^ rb'.length = z
        generalize num rb' = y
        have : (256 * s + (t * 256 + x)) * z = (s + t) * (z * 256) + x * z := by
          rw [show 256 * s + (t * 256 + x) = (s + t) * 256 + x from by omega, Nat.add_mul, Nat.mul_assoc, Nat.mul_comm 256 z]
        rw [this]; omega
    · rw [if_neg hc]
      have hk : evK M E.span e = 0 := by unfold evK; rw [if_neg hc]
      rw [hk] at a b d hlen
      have hsp : (E.ev M e).span = evWid M E.span e := by rw [d]; omega
      rw [← hsp]
      refine ih (evM_ok hM e) c' f g _ _ hrb (by omega) ?_
      rw [← hV, a]
      have : 256 ^ 0 * (E.V + evOff M E.span e) + (c - evOff M E.span e) = E.V + c := by omega
      rw [this]

/-! ### From the start to the last byte -/
def Enc.flush (E : Enc) : Enc := E.shift.shift.shift.shift.shift
theorem Enc.shift_low (E : Enc) : E.shift.low = E.low % 16777216 * 256 := by unfold Enc.shift; split <;> rfl
theorem Enc.start_inv : Enc.start.Inv Enc.start.span := ⟨by decide, by decide, by intro x hx; simp [Enc.start] at hx, by decide, by decide, by simp [Enc.start, Enc.V, Enc.B, num]⟩
theorem Enc.start_V : Enc.start.V = 0 := by simp [Enc.start, Enc.V, Enc.B, num]
theorem Enc.flush_spec {E : Enc} (h : E.Inv E.span) : num E.flush.out = E.V ∧ E.flush.out.length = E.cnt + 4 ∧ ∀ x ∈ E.flush.out, x < 256 := by
  have h0 : E.Inv 1 := h.mono (Nat.le_refl _) h.pos
  obtain ⟨a1, b1, c1⟩ := Enc.shift_spec h0 (by omega)
  obtain ⟨a2, b2, c2⟩ := Enc.shift_spec (c1.mono (s' := 1) (by omega) (by omega)) (by omega)
  obtain ⟨a3, b3, c3⟩ := Enc.shift_spec (c2.mono (s' := 1) (by omega) (by omega)) (by omega)
  obtain ⟨a4, b4, c4⟩ := Enc.shift_spec (c3.mono (s' := 1) (by omega) (by omega)) (by omega)
  obtain ⟨a5, b5, c5⟩ := Enc.shift_spec (c4.mono (s' := 1) (by omega) (by omega)) (by omega)
  have l1 := Enc.shift_low E
  have l2 := Enc.shift_low E.shift
  have l3 := Enc.shift_low E.shift.shift
  have l4 := Enc.shift_low E.shift.shift.shift
  have hz : E.shift.shift.shift.shift.low = 0 := by omega
  unfold Enc.flush
  generalize E.shift.shift.shift.shift = F at *
  have e5 : F.shift = { low := 0, span := F.span, cache := 0, held := 1, out := F.shift.out } := by
    unfold Enc.shift
    rw [if_pos (by omega)]
    simp [hz]
  have hV : F.shift.V = num F.shift.out * 256 * 4294967296 := by
    rw [e5]
    unfold Enc.V Enc.B
    simp [num]
  have hC : F.shift.cnt = F.shift.out.length + 1 := by rw [e5]; rfl
  refine ⟨by omega, by omega, c5.bytes⟩

/-- THE RANGE CODER: the decoder is told the events by the bytes that the coder puts for them. The first byte is 0; four bytes make the first code. -/
theorem stream_ok {M : PM} (hM : PMok M) (l : List Ev) :
    ∃ x1 x2 x3 x4 rb, (Enc.evs M Enc.start l).flush.out = 0 :: x1 :: x2 :: x3 :: x4 :: rb ∧ (∀ x ∈ (Enc.evs M Enc.start l).flush.out, x < 256) ∧
      num [x1, x2, x3, x4] < 4294967295 ∧ DecOK M 4294967295 (num [x1, x2, x3, x4]) rb l ∧ rb.length ≤ l.length := by
  obtain ⟨n, p, q, r, u, v, v1, v2⟩ := Enc.evs_spec l hM Enc.start_inv (by decide) (by decide)
  obtain ⟨f1, f2, f3⟩ := Enc.flush_spec v
  generalize hE : Enc.evs M Enc.start l = E at *
  have hc : Enc.start.cnt = 1 := rfl
  have hlen : E.flush.out.length = n + 5 := by omega
  generalize E.flush.out = o at *
  match o, hlen with
  | x0 :: x1 :: x2 :: x3 :: x4 :: rb, hlen =>
    simp only [List.length_cons] at hlen
    have hn : rb.length = n := by omega
    have hsp : Enc.start.span = 4294967295 := rfl
    rw [Enc.start_V, hsp, Nat.zero_add] at r
    have hnum : num (x0 :: x1 :: x2 :: x3 :: x4 :: rb) = num [x0, x1, x2, x3, x4] * 256 ^ rb.length + num rb := by
      rw [← num_append]; rfl
    have hlt : num [x0, x1, x2, x3, x4] < 4294967295 := by
      rw [f1] at hnum
      rw [← hn] at r
      have : num [x0, x1, x2, x3, x4] * 256 ^ rb.length < 4294967295 * 256 ^ rb.length := by omega
      exact Nat.lt_of_mul_lt_mul_right this
    have h5 : num [x0, x1, x2, x3, x4] = x0 * 4294967296 + num [x1, x2, x3, x4] := by
      rw [num_cons]
      have : 256 ^ [x1, x2, x3, x4].length = 4294967296 := by simp
      rw [this]
    have h0 : x0 = 0 := by omega
    subst h0
    refine ⟨x1, x2, x3, x4, rb, rfl, f3, by omega, ?_, by omega⟩
    have := dec_ok l hM Enc.start_inv (by decide) (by decide) (num [x1, x2, x3, x4]) rb (fun x hx => f3 x (by simp [hx])) (by rw [hE, hn]; exact p) (by
      rw [Enc.start_V, Nat.zero_add, hE, ← f1, hnum, h5]; simp)
    exact this

end Lz
end

section
open Go Go.RowKit
namespace Go.Proofs.YtfpepghmbeoanaaGreatDoor
open Lz
/-- A coder of bits in memory. -/
abbrev CoderC (g low span cache held : Nat) (out : List Nat) : Asn :=
  Ex fun (v : Value) => [cel g 47 #[.int .u64 low, .int .u32 span, .int .u8 cache, .int .i64 held, v], Row 5 v (u8s out)]
abbrev CoderA (g : Nat) (E : Enc) : Asn := CoderC g E.low E.span E.cache E.held E.out

set_option maxRecDepth 100000 in
theorem shift_con (G : Gst) (g : Nat) (E : Enc) (hh : 1 ≤ E.held) (hl : E.low < 8589934592) (_hc : E.cache < 256) (hn : E.cnt ≤ 1000000000) :
    Con Tryz.prog G 27 #[.pointer (some ⟨g, 0, none⟩)] [CoderA g E] (fun _ : Unit => .tuple #[]) (fun _ => [CoderA g E.shift]) := by
  have hn' : E.out.length + E.held ≤ 1000000000 := hn
  refine Con.intro Tryz.func27 rfl (by kernel_rfl) Tryz.ntmps27 (Nat.le_of_ble_eq_true rfl) ?_
  intro F
  show JC _ _ _ _ _ _ [(0, _)] _ [_, _]
  refine JC.open xpick ?_
  rintro v0
  show JC _ _ _ _ _ _ _ _ (_ :: _ :: _ :: _)
  by_cases hA : E.low % 4294967296 < 4278190080 ∨ 4294967296 ≤ E.low
  · skip
    have hsh : E.shift = { low := E.low % 16777216 * 256, span := E.span, cache := E.low / 16777216 % 256, held := 1, out := E.out ++ ((E.cache + E.low / 4294967296) % 256 :: List.replicate (E.held - 1) ((255 + E.low / 4294967296) % 256)) } := by
      unfold Enc.shift; rw [if_pos hA]
    rw [hsh]
    have hA' : E.low % 4294967296 < 4278190080 ∨ (¬ E.low % 4294967296 < 4278190080 ∧ 4294967296 ≤ E.low) := by omega
    clear hA
    obtain ⟨cy, hcy⟩ : ∃ cy, cy = E.low / 4294967296 := ⟨_, rfl⟩
    rcases hA' with hA | hA
    all_goals
      refine JC.seq (sR ?_)
      refine oM ?_
      refine JO.py (Py.nil xe) ?_
      refine JO.py (Py.fld fld47_0 xe xoff) ?_
      refine JO.py (Py.load scal43 xe xpick xrow) ?_
      first | refine JO.py (Py.conv cnv43_45 xe (w_u32 (by omega))) ?_ | refine JO.py (Py.conv cnv43_45 xe (m_u32 _)) ?_
      first | refine oD (Py.lss xe ev_const) ?_ | refine oU (Py.lss xe ev_const) ?_ | refine JO.py (Py.lss xe ev_const) ?_
      refine oM ?_
      first | (refine gF ?_; (refine oM ?_)) | refine kT ?_
      first | (refine gF ?_; (refine JO.py (Py.nil xe) ?_)) | refine kT ?_
      first | (refine gF ?_; (refine JO.py (Py.fld fld47_0 xe xoff) ?_)) | refine kT ?_
      first | (refine gF ?_; (refine JO.py (Py.load scal43 xe xpick xrow) ?_)) | refine kT ?_
      first | (refine gF ?_; (refine JO.py (Py.shr 32 4294967296 xe ev_const rfl (by decide) (by decide) (by decide)) ?_)) | refine kT ?_
      first | (refine gF ?_; (first | refine oD (Py.neq xe ev_const) ?_ | refine oU (Py.neq xe ev_const) ?_ | refine JO.py (Py.neq xe ev_const) ?_)) | refine kT ?_
      first | refine JO.py (Py.pickT xe ev_const) ?_ | refine JO.py (Py.pickF xe xe) ?_
      refine nC ?_
      refine cT ?_
      refine sR ?_
      refine oM ?_
      refine JO.py (Py.nil xe) ?_
      refine JO.py (Py.fld fld47_0 xe xoff) ?_
      refine JO.py (Py.load scal43 xe xpick xrow) ?_
      refine JO.py (Py.shr 32 4294967296 xe ev_const rfl (by decide) (by decide) (by decide)) ?_
      first | refine JO.py (Py.conv cnv43_5 xe (w_u8 (by omega))) ?_ | refine JO.py (Py.conv cnv43_5 xe (m_u8 _)) ?_
      refine oA ?_
      refine nC (JC.seq (sR ?_))
      refine oM ?_
      refine JO.py (Py.nil xe) ?_
      refine JO.py (Py.fld fld47_3 xe xoff) ?_
      refine JO.py (Py.load scal3 xe xpick xrow) ?_
      first | refine oD (Py.gtr xe ev_const) ?_ | refine oU (Py.gtr xe ev_const) ?_ | refine JO.py (Py.gtr xe ev_const) ?_
      refine nC ?_
      refine cT ?_
      refine JC.seq ?_
      refine JC.regionM [(0, true), (1, true), (2, true), (3, true), (4, true), (5, true), (6, true), (7, true), (8, true), (9, true), (10, true), (11, false), (12, false), (13, true), (14, true), (15, false)] mixed (by kernel_rfl) ?_
      refine JM.py ao ⟨fun _ => Py.move xe⟩ ?_
      refine JM.py ao ⟨fun _ => Py.move xe⟩ ?_
      refine JM.py ao ⟨fun _ => Py.nil xe⟩ ?_
      refine JM.py ao ⟨fun _ => Py.fld fld47_4 xe xoff⟩ ?_
      refine JM.ld ao scal22 xe xpick xrow ?_
      refine JM.py ao ⟨fun _ => Py.move xe⟩ ?_
      refine JM.py ao ⟨fun _ => Py.nil xe⟩ ?_
      refine JM.py ao ⟨fun _ => Py.fld fld47_2 xe xoff⟩ ?_
      refine JM.ld ao scal5 xe xpick xrow ?_
      refine JM.py ao ⟨fun _ => Py.move xe⟩ ?_
      first | refine JM.py ao ⟨fun _ => Py.add xe xe (w_u8 (by omega))⟩ ?_ | refine JM.py ao ⟨fun _ => Py.add xe xe (m_u8 _)⟩ ?_
      refine JM.eff ao ?_
      refine JO.bslice Tryz.underlying22 elm5 (Evs.cons xe Evs.nil) rfl rfl (by simp [Value.oneCell']) (by decide) ?_; intro b39
      refine JO.nil ?_
      refine JX.mix (Kept.drop (Forced.trans (q := 10) (Forced.step (by kernel_rfl)) (Forced.step (by kernel_rfl))) (Kept.keep (fun _ hw => hw.cell xpick xrow) Kept.nil)) ?_
      refine JM.eff ao ?_
      refine JO.app Tryz.underlying22 elm5 xe xe xpick (Src.lit rfl xpick (by rfl) (by simp [Value.oneCell'])) (by simp [u8s]; omega) (by decide) ?_
      intro v40 ho40
      refine JO.nil ?_
      refine JX.mix (Kept.drop (Forced.step (by kernel_rfl)) Kept.nil) ?_
      refine JM.py ao ⟨fun _ => Py.nil xe⟩ ?_
      refine JM.py ao ⟨fun _ => Py.fld fld47_4 xe xoff⟩ ?_
      refine JM.eff ao ?_
      refine JO.store siz22 xe xe (by first | rfl | assumption) xpick xsize xnorm ?_
      refine JO.nil ?_
      refine JX.mix Kept.nil ?_
      refine JM.nil (JX.code (JC.seq (JC.block ?_)))
      refine JC.as (A := Row 5 v40 _) (A' := Row 5 v40 (u8s (E.out ++ [(E.cache + cy) % 256]))) xpick (row_eq (u8s_snoc (by omega))) ?_
      refine JC.loop (ι := Nat × Value) (fun i => i.1 + 1 ≤ E.held) (fun i => [(0, .pointer (some ⟨g, 0, none⟩)), (2, .int .u8 (cy % 256 : Nat))]) (fun i => [cel g 47 #[.int .u64 E.low, .int .u32 E.span, .int .u8 E.cache, .int .i64 (E.held - i.1 : Nat), i.2], Row 5 i.2 (u8s (E.out ++ [(E.cache + cy) % 256] ++ List.replicate i.1 ((255 + cy) % 256))), F]) (fun i => E.held - i.1) (0, v40) hh xag xpk ?_
      rintro ⟨j, v⟩ base' hj
      dsimp only at hj
      dsimp only
      by_cases hc1 : j + 1 < E.held
      · skip
        refine JC.seq (sR ?_)
        refine oM ?_
        refine JO.py (Py.nil xe) ?_
        refine JO.py (Py.fld fld47_3 xe xoff) ?_
        refine JO.py (Py.load scal3 xe xpick xrow) ?_
        first | refine oD (Py.gtr xe ev_const) ?_ | refine oU (Py.gtr xe ev_const) ?_ | refine JO.py (Py.gtr xe ev_const) ?_
        refine nC ?_
        refine cT ?_
        refine JC.skip (JX.code (JC.seq (JC.block (JC.region ?_))))
        refine oM ?_
        refine oM ?_
        refine JO.py (Py.nil xe) ?_
        refine JO.py (Py.fld fld47_4 xe xoff) ?_
        refine JO.py (Py.load scal22 xe xpick xrow) ?_
        refine oM ?_
        first | refine JO.py (Py.add ev_const xe (w_u8 (by omega))) ?_ | refine JO.py (Py.add ev_const xe (m_u8 _)) ?_
        refine JO.bslice Tryz.underlying22 elm5 (Evs.cons xe Evs.nil) rfl rfl (by simp [Value.oneCell']) (by decide) ?_; intro b62
        refine JO.app Tryz.underlying22 elm5 xe xe xpick (Src.lit rfl xpick (by rfl) (by simp [Value.oneCell'])) (by simp [u8s]; omega) (by decide) ?_
        intro v63 ho63
        refine JO.py (Py.nil xe) ?_
        refine JO.py (Py.fld fld47_4 xe xoff) ?_
        refine JO.store siz22 xe xe (by first | rfl | assumption) xpick xsize xnorm ?_
        refine JO.nil (JX.blockN (JX.code (JC.region ?_)))
        refine oM ?_
        refine JO.py (Py.nil xe) ?_
        refine JO.py (Py.fld fld47_3 xe xoff) ?_
        refine JO.py (Py.load scal3 xe xpick xrow) ?_
        refine JO.py (Py.sub xe ev_const wI) ?_
        refine JO.py (Py.nil xe) ?_
        refine JO.py (Py.fld fld47_3 xe xoff) ?_
        refine JO.store siz3 xe xe (by first | rfl | assumption) xpick xsize xnorm ?_
        refine JO.nil ?_
        refine JX.as (A := Row 5 v63 _) (A' := Row 5 v63 (u8s (E.out ++ [(E.cache + cy) % 256] ++ List.replicate (j + 1) ((255 + cy) % 256)))) xpick (row_eq (by rw [List.replicate_succ', ← List.append_assoc]; exact u8s_snoc (by omega))) ?_
        refine JX.loop (j + 1, v63) (by dsimp only; omega) (by dsimp only; omega) xag xpk
      · skip
        have hj' : j = E.held - 1 := by omega
        subst hj'
        refine JC.seq (sR ?_)
        refine oM ?_
        refine JO.py (Py.nil xe) ?_
        refine JO.py (Py.fld fld47_3 xe xoff) ?_
        refine JO.py (Py.load scal3 xe xpick xrow) ?_
        first | refine oD (Py.gtr xe ev_const) ?_ | refine oU (Py.gtr xe ev_const) ?_ | refine JO.py (Py.gtr xe ev_const) ?_
        refine nC ?_
        refine cF ?_
        refine JC.exit (JX.exit (JX.exit (JX.blockE (JX.code (JC.region ?_)))))
        refine oM ?_
        refine JO.py (Py.nil xe) ?_
        refine JO.py (Py.fld fld47_3 xe xoff) ?_
        refine JO.store siz3 xe ev_const (by first | rfl | assumption) xpick xsize xnorm ?_
        refine nC (JC.region ?_)
        refine oM ?_
        refine oM ?_
        refine JO.py (Py.nil xe) ?_
        refine JO.py (Py.fld fld47_0 xe xoff) ?_
        refine JO.py (Py.load scal43 xe xpick xrow) ?_
        refine JO.py (Py.shr 24 16777216 xe ev_const rfl (by decide) (by decide) (by decide)) ?_
        first | refine JO.py (Py.conv cnv43_5 xe (w_u8 (by omega))) ?_ | refine JO.py (Py.conv cnv43_5 xe (m_u8 _)) ?_
        refine JO.py (Py.nil xe) ?_
        refine JO.py (Py.fld fld47_2 xe xoff) ?_
        refine JO.store siz5 xe xe (by first | rfl | assumption) xpick xsize xnorm ?_
        refine nC (sR ?_)
        refine oM ?_
        refine JO.py (Py.nil xe) ?_
        refine JO.py (Py.fld fld47_3 xe xoff) ?_
        refine JO.py (Py.load scal3 xe xpick xrow) ?_
        refine JO.py (Py.add xe ev_const wI) ?_
        refine JO.py (Py.nil xe) ?_
        refine JO.py (Py.fld fld47_3 xe xoff) ?_
        refine JO.store siz3 xe xe (by first | rfl | assumption) xpick xsize xnorm ?_
        refine nC (JC.region ?_)
        refine oM ?_
        refine oM ?_
        refine JO.py (Py.nil xe) ?_
        refine JO.py (Py.fld fld47_0 xe xoff) ?_
        refine JO.py (Py.load scal43 xe xpick xrow) ?_
        refine JO.py (Py.mask 24 16777216 xe ev_const (by decide) (by decide) (by decide) (r_u64 (by omega)) (w_u64 (by omega))) ?_
        first | refine JO.py (Py.shl 8 256 xe ev_const rfl (by decide) (by decide) (w_u64 (by omega))) ?_ | refine JO.py (Py.shl 8 256 xe ev_const rfl (by decide) (by decide) (m_u64 _)) ?_
        refine JO.py (Py.nil xe) ?_
        refine JO.py (Py.fld fld47_0 xe xoff) ?_
        refine JO.store siz43 xe xe (by first | rfl | assumption) xpick xsize xnorm ?_
        refine JO.nil ?_
        refine JX.as (A := Row 5 v _) (A' := Row 5 v (u8s (E.out ++ ((E.cache + E.low / 4294967296) % 256 :: List.replicate (E.held - 1) ((255 + E.low / 4294967296) % 256))))) xpick (row_eq (by rw [hcy]; simp)) ?_
        refine JX.end0 (Or.inr rfl) (()) Tryz.results27 rfl xpk
  · skip
    have hsh : E.shift = { low := E.low % 16777216 * 256, span := E.span, cache := E.cache, held := E.held + 1, out := E.out } := by
      unfold Enc.shift; rw [if_neg hA]
    rw [hsh]
    refine JC.seq (sR ?_)
    refine oM ?_
    refine JO.py (Py.nil xe) ?_
    refine JO.py (Py.fld fld47_0 xe xoff) ?_
    refine JO.py (Py.load scal43 xe xpick xrow) ?_
    first | refine JO.py (Py.conv cnv43_45 xe (w_u32 (by omega))) ?_ | refine JO.py (Py.conv cnv43_45 xe (m_u32 _)) ?_
    first | refine oD (Py.lss xe ev_const) ?_ | refine oU (Py.lss xe ev_const) ?_ | refine JO.py (Py.lss xe ev_const) ?_
    refine oM ?_
    first | (refine gF ?_; (refine oM ?_)) | refine kT ?_
    first | (refine gF ?_; (refine JO.py (Py.nil xe) ?_)) | refine kT ?_
    first | (refine gF ?_; (refine JO.py (Py.fld fld47_0 xe xoff) ?_)) | refine kT ?_
    first | (refine gF ?_; (refine JO.py (Py.load scal43 xe xpick xrow) ?_)) | refine kT ?_
    first | (refine gF ?_; (refine JO.py (Py.shr 32 4294967296 xe ev_const rfl (by decide) (by decide) (by decide)) ?_)) | refine kT ?_
    first | (refine gF ?_; (first | refine oD (Py.neq xe ev_const) ?_ | refine oU (Py.neq xe ev_const) ?_ | refine JO.py (Py.neq xe ev_const) ?_)) | refine kT ?_
    first | refine JO.py (Py.pickT xe ev_const) ?_ | refine JO.py (Py.pickF xe xe) ?_
    refine nC ?_
    refine cF ?_
    refine JC.skip (JX.code (sR ?_))
    refine oM ?_
    refine JO.py (Py.nil xe) ?_
    refine JO.py (Py.fld fld47_3 xe xoff) ?_
    refine JO.py (Py.load scal3 xe xpick xrow) ?_
    refine JO.py (Py.add xe ev_const wI) ?_
    refine JO.py (Py.nil xe) ?_
    refine JO.py (Py.fld fld47_3 xe xoff) ?_
    refine JO.store siz3 xe xe (by first | rfl | assumption) xpick xsize xnorm ?_
    refine nC (JC.region ?_)
    refine oM ?_
    refine oM ?_
    refine JO.py (Py.nil xe) ?_
    refine JO.py (Py.fld fld47_0 xe xoff) ?_
    refine JO.py (Py.load scal43 xe xpick xrow) ?_
    refine JO.py (Py.mask 24 16777216 xe ev_const (by decide) (by decide) (by decide) (r_u64 (by omega)) (w_u64 (by omega))) ?_
    first | refine JO.py (Py.shl 8 256 xe ev_const rfl (by decide) (by decide) (w_u64 (by omega))) ?_ | refine JO.py (Py.shl 8 256 xe ev_const rfl (by decide) (by decide) (m_u64 _)) ?_
    refine JO.py (Py.nil xe) ?_
    refine JO.py (Py.fld fld47_0 xe xoff) ?_
    refine JO.store siz43 xe xe (by first | rfl | assumption) xpick xsize xnorm ?_
    refine JO.nil ?_
    refine JX.end0 (Or.inr rfl) (()) Tryz.results27 rfl xpk
end Go.Proofs.YtfpepghmbeoanaaGreatDoor
end

section
open Go Go.RowKit
namespace Go.Proofs.YtfpepghmbeoanaaGreatDoor
open Lz
abbrev vu16 (x : Nat) : Value := .int .u16 (x : Int)
/-- A row of chances. -/
def chs (f : Nat → Nat) (n : Nat) : Array Value := Array.ofFn (n := n) fun i => vu16 (f i.val)
def updR (f : Nat → Nat) (q : Nat) (b : Bool) : Nat → Nat := fun j => if j = q then updP (f q) b else f j
theorem chs_size (f : Nat → Nat) (n : Nat) : (chs f n).size = n := by simp [chs]
theorem chs_get {f : Nat → Nat} {n q : Nat} (h : q < n) : (chs f n)[q]? = some (vu16 (f q)) := by simp [chs, h]
theorem chs_set (f : Nat → Nat) (n q : Nat) (x : Nat) : (chs f n).setIfInBounds q (vu16 x) = chs (fun j => if j = q then x else f j) n := by
  apply Array.ext_getElem?
  intro i
  simp only [chs, Array.getElem?_setIfInBounds, Array.getElem?_ofFn, Array.size_ofFn]
  by_cases h : q = i
  · subst h; simp
  · have h' : ¬ i = q := fun e => h e.symm
    simp [h, h']
/-- In order, and k events may come. -/
structure Enc.Ok (E : Enc) (k : Nat) : Prop where
  inv : E.Inv E.span
  lo : 16777216 ≤ E.span
  hi : E.span < 4294967296
  cnt : E.cnt + k ≤ 1000000000
theorem Enc.Ok.ev {E : Enc} {k : Nat} (h : Enc.Ok E (k + 1)) {M : PM} (hM : PMok M) (e : Ev) : Enc.Ok (E.ev M e) k := by
  obtain ⟨_, b, c, _, f, g⟩ := Enc.ev_spec hM h.inv h.lo h.hi e
  refine ⟨c, f, g, ?_⟩
  have : evK M E.span e ≤ 1 := by unfold evK; split <;> omega
  have := h.cnt
  omega
theorem Enc.Ok.evs {l : List Ev} : ∀ {E : Enc} {k : Nat} (_ : Enc.Ok E (l.length + k)) {M : PM} (_ : PMok M), Enc.Ok (Enc.evs M E l) k := by
  induction l with
  | nil => intro E k h M _; exact (by simpa using h : Enc.Ok E k)
  | cons e l ih =>
    intro E k h M hM
    exact ih (Enc.Ok.ev (by rwa [List.length_cons, Nat.add_right_comm] at h) hM e) (evM_ok hM e)
theorem Enc.Ok.mono {E : Enc} {k k' : Nat} (h : Enc.Ok E k) (hk : k' ≤ k) : Enc.Ok E k' := ⟨h.inv, h.lo, h.hi, by have := h.cnt; omega⟩

theorem chs_upd {f : Nat → Nat} {n q : Nat} {b : Bool} {x : Int} (h : x = (updP (f q) b : Nat)) : (chs f n).setIfInBounds q (.int .u16 x) = chs (updR f q b) n := by
  subst h; exact chs_set f n q _

theorem shift_span (E : Enc) : E.shift.span = E.span := by unfold Enc.shift; split <;> rfl

set_option maxRecDepth 100000 in
theorem bit_con (G : Gst) (g p q n : Nat) (E : Enc) (f : Nat → Nat) (b : Bool) (bi : Int) (hb : bi = (b.toNat : Int)) (hE : Enc.Ok E 1) (hq : q < n) (hp : 31 ≤ f q ∧ f q ≤ 2017) :
    Con Tryz.prog G 21 #[.pointer (some ⟨g, 0, none⟩), .pointer (some ⟨p, q, none⟩), .int .i64 bi] [CoderA g E, cel p 61 (chs f n)] (fun _ : Unit => .tuple #[]) (fun _ => [CoderA g (E.bit (f q) b), cel p 61 (chs (updR f q b) n)]) := by
  have hm : E.span / 2048 * 31 ≤ E.span / 2048 * f q ∧ E.span / 2048 * f q ≤ E.span / 2048 * 2017 := ⟨Nat.mul_le_mul_left _ hp.1, Nat.mul_le_mul_left _ hp.2⟩
  have hlo := hE.lo
  have hhi := hE.hi
  have hlow := hE.inv.low
  have hcnt := hE.cnt
  have hheld := hE.inv.held
  have hcache := hE.inv.cache
  have hget := chs_get (f := f) hq
  have hq' : q < (chs f n).size := by rw [chs_size]; exact hq
  obtain ⟨bd, hbd⟩ : ∃ bd, E.span / 2048 * f q = bd := ⟨_, rfl⟩
  obtain ⟨pr, hpr⟩ : ∃ pr, f q = pr := ⟨_, rfl⟩
  have hbit : E.bit (f q) b = (if b then { E with low := E.low + bd, span := E.span - bd } else { E with span := bd } : Enc).norm := by
    unfold Enc.bit Enc.pre; rw [hbd]
  have hupd : ∀ x : Int, x = (updP pr b : Nat) → (chs f n).setIfInBounds q (.int .u16 x) = chs (updR f q b) n := fun x hx => chs_upd (by rw [hpr]; exact hx)
  rw [hbit]
  rw [hbd] at hm
  rw [hpr] at hget hp hbd
  have hbi : (E.span : Int) / 2048 * (pr : Int) = bd := by rw [← hbd]; simp
  clear hbit hbd hE
  cases b
  all_goals
    simp only [Bool.toNat_false, Bool.toNat_true, Bool.false_eq_true, if_true, if_false] at hb ⊢
    simp only [updP, Bool.false_eq_true, if_true, if_false] at hupd
    subst hb
  · skip
    refine Con.intro Tryz.func21 rfl (by kernel_rfl) Tryz.ntmps21 (Nat.le_of_ble_eq_true rfl) ?_
    intro F
    show JC _ _ _ _ _ _ [(0, _), (1, _), (2, _)] _ [_, _, _]
    refine JC.open xpick ?_
    rintro sl
    show JC _ _ _ _ _ _ _ _ (_ :: _ :: _ :: _)
    refine JC.seq ?_
    refine JC.regionD mixed (by kernel_rfl) ?_
    refine JD.py (Py.move xe) ?_
    refine JD.py (Py.nil xe) ?_
    refine JD.py (Py.fld fld47_1 xe xoff) ?_
    refine JD.py (Py.load scal45 xe xpick xrow) ?_
    refine JD.py (Py.shr 11 2048 xe ev_const rfl (by decide) (by decide) (by decide)) ?_
    refine JD.py (Py.move xe) ?_
    refine JD.py (Py.nil xe) ?_
    refine JD.py (Py.load scal61 xe xpick xrow) ?_
    first | refine JD.py (Py.conv cnv61_45 xe (w_u32 (by omega))) ?_ | refine JD.py (Py.conv cnv61_45 xe (m_u32 _)) ?_
    first | refine JD.py (Py.mul xe xe (w_u32 (by omega))) ?_ | refine JD.py (Py.mul xe xe (m_u32 _)) ?_
    refine JD.py (Py.assign xe) ?_
    refine JD.nilN (JX.code (JC.seq (sR ?_)))
    refine oM ?_
    first | refine oD (Py.eql xe ev_const) ?_ | refine oU (Py.eql xe ev_const) ?_ | refine JO.py (Py.eql xe ev_const) ?_
    refine nC ?_
    refine cT ?_
    refine sR ?_
    refine oM ?_
    refine oM ?_
    refine JO.py (Py.nil xe) ?_
    refine JO.py (Py.fld fld47_1 xe xoff) ?_
    refine JO.store siz45 xe xe (by first | rfl | assumption) xpick xsize xnorm ?_
    refine nC ?_
    refine JC.regionM [(0, true), (1, true), (2, true), (3, true), (4, true), (5, true), (6, true), (7, true), (8, true), (9, true), (10, false)] mixed (by kernel_rfl) ?_
    refine JM.py ao ⟨fun _ => Py.move xe⟩ ?_
    refine JM.py ao ⟨fun _ => Py.nil xe⟩ ?_
    refine JM.ld ao scal61 xe xpick xrow ?_
    refine JM.py ao ⟨fun _ => Py.move xe⟩ ?_
    refine JM.py ao ⟨fun _ => Py.nil xe⟩ ?_
    refine JM.ld ao scal61 xe xpick xrow ?_
    first | refine JM.py ao ⟨fun _ => Py.sub ev_const xe (w_u16 (by omega))⟩ ?_ | refine JM.py ao ⟨fun _ => Py.sub ev_const xe (m_u16 _)⟩ ?_
    refine JM.py ao ⟨fun _ => Py.shr 5 32 xe ev_const rfl (by decide) (by decide) (by decide)⟩ ?_
    first | refine JM.py ao ⟨fun _ => Py.add xe xe (w_u16 (by omega))⟩ ?_ | refine JM.py ao ⟨fun _ => Py.add xe xe (m_u16 _)⟩ ?_
    refine JM.py ao ⟨fun _ => Py.nil xe⟩ ?_
    refine JM.eff ao ?_
    refine JO.store siz61 xe xe (by first | rfl | assumption) xpick xsize xnorm ?_
    refine JO.nil ?_
    refine JX.mix (Kept.drop (Forced.step (by kernel_rfl)) (Kept.drop (Forced.step (by kernel_rfl)) Kept.nil)) ?_
    refine JM.nil (JX.code (JC.block ?_))
    refine JC.as (A := cel p 61 _) (A' := cel p 61 (chs (updR f q false) n)) xpick (cel_eq (hupd _ (by omega))) ?_
    unfold Enc.norm
    by_cases hn : bd < 16777216
    · skip
      rw [if_pos hn]
      have hs2 := shift_span { E with span := bd * 256 }
      dsimp only at hs2
      refine JC.unroll 1 ?_
      refine JC.seq (sR ?_)
      refine oM ?_
      refine JO.py (Py.nil xe) ?_
      refine JO.py (Py.fld fld47_1 xe xoff) ?_
      refine JO.py (Py.load scal45 xe xpick xrow) ?_
      first | refine oD (Py.lss xe ev_const) ?_ | refine oU (Py.lss xe ev_const) ?_ | refine JO.py (Py.lss xe ev_const) ?_
      refine nC ?_
      refine cT ?_
      refine JC.skip (JX.code (JC.block (sR ?_)))
      refine oM ?_
      refine JO.py (Py.nil xe) ?_
      refine JO.py (Py.fld fld47_1 xe xoff) ?_
      refine JO.py (Py.load scal45 xe xpick xrow) ?_
      first | refine JO.py (Py.shl 8 256 xe ev_const rfl (by decide) (by decide) (w_u32 (by omega))) ?_ | refine JO.py (Py.shl 8 256 xe ev_const rfl (by decide) (by decide) (m_u32 _)) ?_
      refine JO.py (Py.nil xe) ?_
      refine JO.py (Py.fld fld47_1 xe xoff) ?_
      refine JO.store siz45 xe xe (by first | rfl | assumption) xpick xsize xnorm ?_
      refine nC (JC.region ?_)
      refine oM ?_
      refine JO.call (Evs.cons xe Evs.nil) (shift_con G g { E with span := bd * 256 } hheld (by dsimp only; omega) hcache (by unfold Enc.cnt at hcnt ⊢; dsimp only; omega)) xpk ?_
      rintro _
      show JO _ _ _ _ _ _ _ ((72, _) :: _) _ (_ :: _ :: _)
      refine JO.open xpick ?_
      rintro sl2
      show JO _ _ _ _ _ _ _ _ _ (_ :: _ :: _ :: _)
      refine JO.nil (JX.blockN (JX.again (JC.seq (sR ?_))))
      refine oM ?_
      refine JO.py (Py.nil xe) ?_
      refine JO.py (Py.fld fld47_1 xe xoff) ?_
      refine JO.py (Py.load scal45 xe xpick xrow) ?_
      first | refine oD (Py.lss xe ev_const) ?_ | refine oU (Py.lss xe ev_const) ?_ | refine JO.py (Py.lss xe ev_const) ?_
      refine nC ?_
      refine cF ?_
      refine JC.exit (JX.exit (JX.exit (JX.blockE ?_)))
      refine JX.end0 (Or.inr rfl) (()) Tryz.results21 rfl xpk
    · skip
      rw [if_neg hn]
      refine JC.unroll 0 ?_
      refine JC.seq (sR ?_)
      refine oM ?_
      refine JO.py (Py.nil xe) ?_
      refine JO.py (Py.fld fld47_1 xe xoff) ?_
      refine JO.py (Py.load scal45 xe xpick xrow) ?_
      first | refine oD (Py.lss xe ev_const) ?_ | refine oU (Py.lss xe ev_const) ?_ | refine JO.py (Py.lss xe ev_const) ?_
      refine nC ?_
      refine cF ?_
      refine JC.exit (JX.exit (JX.exit (JX.blockE ?_)))
      refine JX.end0 (Or.inr rfl) (()) Tryz.results21 rfl xpk
  · skip
    refine Con.intro Tryz.func21 rfl (by kernel_rfl) Tryz.ntmps21 (Nat.le_of_ble_eq_true rfl) ?_
    intro F
    show JC _ _ _ _ _ _ [(0, _), (1, _), (2, _)] _ [_, _, _]
    refine JC.open xpick ?_
    rintro sl
    show JC _ _ _ _ _ _ _ _ (_ :: _ :: _ :: _)
    refine JC.seq ?_
    refine JC.regionD mixed (by kernel_rfl) ?_
    refine JD.py (Py.move xe) ?_
    refine JD.py (Py.nil xe) ?_
    refine JD.py (Py.fld fld47_1 xe xoff) ?_
    refine JD.py (Py.load scal45 xe xpick xrow) ?_
    refine JD.py (Py.shr 11 2048 xe ev_const rfl (by decide) (by decide) (by decide)) ?_
    refine JD.py (Py.move xe) ?_
    refine JD.py (Py.nil xe) ?_
    refine JD.py (Py.load scal61 xe xpick xrow) ?_
    first | refine JD.py (Py.conv cnv61_45 xe (w_u32 (by omega))) ?_ | refine JD.py (Py.conv cnv61_45 xe (m_u32 _)) ?_
    first | refine JD.py (Py.mul xe xe (w_u32 (by omega))) ?_ | refine JD.py (Py.mul xe xe (m_u32 _)) ?_
    refine JD.py (Py.assign xe) ?_
    refine JD.nilN (JX.code (JC.seq (sR ?_)))
    refine oM ?_
    first | refine oD (Py.eql xe ev_const) ?_ | refine oU (Py.eql xe ev_const) ?_ | refine JO.py (Py.eql xe ev_const) ?_
    refine nC ?_
    refine cF ?_
    refine sR ?_
    refine oM ?_
    refine JO.py (Py.nil xe) ?_
    refine JO.py (Py.fld fld47_0 xe xoff) ?_
    refine JO.py (Py.load scal43 xe xpick xrow) ?_
    refine oM ?_
    first | refine JO.py (Py.conv cnv45_43 xe (w_u64 (by omega))) ?_ | refine JO.py (Py.conv cnv45_43 xe (m_u64 _)) ?_
    first | refine JO.py (Py.add xe xe (w_u64 (by omega))) ?_ | refine JO.py (Py.add xe xe (m_u64 _)) ?_
    refine JO.py (Py.nil xe) ?_
    refine JO.py (Py.fld fld47_0 xe xoff) ?_
    refine JO.store siz43 xe xe (by first | rfl | assumption) xpick xsize xnorm ?_
    refine nC (sR ?_)
    refine oM ?_
    refine JO.py (Py.nil xe) ?_
    refine JO.py (Py.fld fld47_1 xe xoff) ?_
    refine JO.py (Py.load scal45 xe xpick xrow) ?_
    refine oM ?_
    first | refine JO.py (Py.sub xe xe (w_u32 (by omega))) ?_ | refine JO.py (Py.sub xe xe (m_u32 _)) ?_
    refine JO.py (Py.nil xe) ?_
    refine JO.py (Py.fld fld47_1 xe xoff) ?_
    refine JO.store siz45 xe xe (by first | rfl | assumption) xpick xsize xnorm ?_
    refine nC ?_
    refine JC.regionM [(0, true), (1, true), (2, true), (3, true), (4, true), (5, true), (6, true), (7, true), (8, true), (9, false)] mixed (by kernel_rfl) ?_
    refine JM.py ao ⟨fun _ => Py.move xe⟩ ?_
    refine JM.py ao ⟨fun _ => Py.nil xe⟩ ?_
    refine JM.ld ao scal61 xe xpick xrow ?_
    refine JM.py ao ⟨fun _ => Py.move xe⟩ ?_
    refine JM.py ao ⟨fun _ => Py.nil xe⟩ ?_
    refine JM.ld ao scal61 xe xpick xrow ?_
    refine JM.py ao ⟨fun _ => Py.shr 5 32 xe ev_const rfl (by decide) (by decide) (by decide)⟩ ?_
    first | refine JM.py ao ⟨fun _ => Py.sub xe xe (w_u16 (by omega))⟩ ?_ | refine JM.py ao ⟨fun _ => Py.sub xe xe (m_u16 _)⟩ ?_
    refine JM.py ao ⟨fun _ => Py.nil xe⟩ ?_
    refine JM.eff ao ?_
    refine JO.store siz61 xe xe (by first | rfl | assumption) xpick xsize xnorm ?_
    refine JO.nil ?_
    refine JX.mix (Kept.drop (Forced.step (by kernel_rfl)) (Kept.drop (Forced.step (by kernel_rfl)) Kept.nil)) ?_
    refine JM.nil (JX.code (JC.block ?_))
    refine JC.as (A := cel p 61 _) (A' := cel p 61 (chs (updR f q true) n)) xpick (cel_eq (hupd _ (by omega))) ?_
    unfold Enc.norm
    by_cases hn : E.span - bd < 16777216
    · skip
      rw [if_pos hn]
      have hs2 := shift_span { E with low := E.low + bd, span := (E.span - bd) * 256 }
      dsimp only at hs2
      refine JC.unroll 1 ?_
      refine JC.seq (sR ?_)
      refine oM ?_
      refine JO.py (Py.nil xe) ?_
      refine JO.py (Py.fld fld47_1 xe xoff) ?_
      refine JO.py (Py.load scal45 xe xpick xrow) ?_
      first | refine oD (Py.lss xe ev_const) ?_ | refine oU (Py.lss xe ev_const) ?_ | refine JO.py (Py.lss xe ev_const) ?_
      refine nC ?_
      refine cT ?_
      refine JC.skip (JX.code (JC.block (sR ?_)))
      refine oM ?_
      refine JO.py (Py.nil xe) ?_
      refine JO.py (Py.fld fld47_1 xe xoff) ?_
      refine JO.py (Py.load scal45 xe xpick xrow) ?_
      first | refine JO.py (Py.shl 8 256 xe ev_const rfl (by decide) (by decide) (w_u32 (by omega))) ?_ | refine JO.py (Py.shl 8 256 xe ev_const rfl (by decide) (by decide) (m_u32 _)) ?_
      refine JO.py (Py.nil xe) ?_
      refine JO.py (Py.fld fld47_1 xe xoff) ?_
      refine JO.store siz45 xe xe (by first | rfl | assumption) xpick xsize xnorm ?_
      refine nC (JC.region ?_)
      refine oM ?_
      refine JO.call (Evs.cons xe Evs.nil) (shift_con G g { E with low := E.low + bd, span := (E.span - bd) * 256 } hheld (by dsimp only; omega) hcache (by unfold Enc.cnt at hcnt ⊢; dsimp only; omega)) xpk ?_
      rintro _
      show JO _ _ _ _ _ _ _ ((72, _) :: _) _ (_ :: _ :: _)
      refine JO.open xpick ?_
      rintro sl2
      show JO _ _ _ _ _ _ _ _ _ (_ :: _ :: _ :: _)
      refine JO.nil (JX.blockN (JX.again (JC.seq (sR ?_))))
      refine oM ?_
      refine JO.py (Py.nil xe) ?_
      refine JO.py (Py.fld fld47_1 xe xoff) ?_
      refine JO.py (Py.load scal45 xe xpick xrow) ?_
      first | refine oD (Py.lss xe ev_const) ?_ | refine oU (Py.lss xe ev_const) ?_ | refine JO.py (Py.lss xe ev_const) ?_
      refine nC ?_
      refine cF ?_
      refine JC.exit (JX.exit (JX.exit (JX.blockE ?_)))
      refine JX.end0 (Or.inr rfl) (()) Tryz.results21 rfl xpk
    · skip
      rw [if_neg hn]
      refine JC.unroll 0 ?_
      refine JC.seq (sR ?_)
      refine oM ?_
      refine JO.py (Py.nil xe) ?_
      refine JO.py (Py.fld fld47_1 xe xoff) ?_
      refine JO.py (Py.load scal45 xe xpick xrow) ?_
      first | refine oD (Py.lss xe ev_const) ?_ | refine oU (Py.lss xe ev_const) ?_ | refine JO.py (Py.lss xe ev_const) ?_
      refine nC ?_
      refine cF ?_
      refine JC.exit (JX.exit (JX.exit (JX.blockE ?_)))
      refine JX.end0 (Or.inr rfl) (()) Tryz.results21 rfl xpk
end Go.Proofs.YtfpepghmbeoanaaGreatDoor
end

section
open Go Go.RowKit
namespace Go.Proofs.YtfpepghmbeoanaaGreatDoor
open Lz
theorem stars_flat {l r : List Asn} {h : Hp} : stars (stars l :: r) h ↔ stars (l ++ r) h := by
  rw [stars_append]; exact Iff.rfl
/-- Where the rows of chances lie. -/
structure Tab where
  ids : List Nat
  blk : Nat → Nat
  len : Nat → Nat
def Tab.row (T : Tab) (M : PM) (id : Nat) : Asn := cel (T.blk id) 61 (chs (M id) (T.len id))
def Chances (T : Tab) (M : PM) : Asn := stars (T.ids.map (T.row M))
theorem pick_map {F : Nat → Asn} {id : Nat} : ∀ {l : List Nat}, id ∈ l → Pick (F id) (l.map F) ((l.erase id).map F)
  | x :: l, h => by
    by_cases hx : x = id
    · subst hx; simp; exact .here
    · have : id ∈ l := by simpa [Ne.symm hx] using h
      rw [List.erase_cons_tail (by simpa using hx)]
      exact .there (pick_map this)
theorem but_eq {F F' : Nat → Asn} {id : Nat} {l : List Nat} (hnd : l.Nodup) (h : ∀ j, j ≠ id → F j = F' j) : (l.erase id).map F = (l.erase id).map F' := by
  apply List.map_congr_left
  intro j hj
  refine h j fun e => ?_
  subst e
  exact (List.Nodup.not_mem_erase hnd) hj
/-- A row is lent. -/
theorem lend {G : Gst} {w : World} {T : Tab} {M : PM} {r : List Asn} {id : Nat} (hid : id ∈ T.ids) (hw : Sat G w (Chances T M :: r)) : Sat G w (T.row M id :: ((T.ids.erase id).map (T.row M) ++ r)) :=
  hw.of fun hs => by
    have h1 := stars_flat.1 hs
    rw [stars_append] at h1
    obtain ⟨h1, h2, hd, he, ha, hb⟩ := h1
    have := (pick_map (F := T.row M) hid).to ha
    exact (stars_append (a := T.row M id :: (T.ids.erase id).map (T.row M)) (b := r)).2 ⟨h1, h2, hd, he, this, hb⟩
theorem unlend {G : Gst} {w : World} {T : Tab} {M M' : PM} {r : List Asn} {id : Nat} (hid : id ∈ T.ids) (hnd : T.ids.Nodup) (hM : ∀ j, j ≠ id → M j = M' j) (hw : Sat G w (T.row M' id :: ((T.ids.erase id).map (T.row M) ++ r))) : Sat G w (Chances T M' :: r) :=
  hw.of fun hs => by
    refine stars_flat.2 ?_
    rw [but_eq (F := T.row M) (F' := T.row M') hnd (fun j hj => by unfold Tab.row; rw [hM j hj])] at hs
    obtain ⟨h1, h2, hd, he, ha, hb⟩ := (stars_append (a := T.row M' id :: (T.ids.erase id).map (T.row M')) (b := r)).1 hs
    exact stars_append.2 ⟨h1, h2, hd, he, (pick_map (F := T.row M') hid).back ha, hb⟩

/-- The coder and its chances. -/
structure Tab.Ok (T : Tab) : Prop where
  nodup : T.ids.Nodup
theorem bitM {G : Gst} {g : Nat} {T : Tab} (hT : T.Ok) {M : PM} (hM : PMok M) {E : Enc} (hE : Enc.Ok E 1) {id ix : Nat} (hid : id ∈ T.ids) (hq : ix < T.len id) (b : Bool) {bi : Int} (hb : bi = (b.toNat : Int)) :
    Con Tryz.prog G 21 #[.pointer (some ⟨g, 0, none⟩), .pointer (some ⟨T.blk id, ix, none⟩), .int .i64 bi] [CoderA g E, Chances T M] (fun _ : Unit => .tuple #[])
      (fun _ => [CoderA g (E.ev M (.bit id ix b)), Chances T (evM M (.bit id ix b))]) := by
  refine Con.conseq (bit_con G g (T.blk id) ix (T.len id) E (M id) b bi hb hE hq (hM id ix)) fun F w hw => ?_
  have h1 := lend hid (hw.pick (.there .here))
  refine ⟨stars ((T.ids.erase id).map (T.row M) ++ [F]), ?_, ?_⟩
  · have h2 : Sat G w ([CoderA g E, T.row M id] ++ ((T.ids.erase id).map (T.row M) ++ [F])) := by
      refine h1.of fun hs => ?_
      refine Pick.to (A := CoderA g E) (l := T.row M id :: ((T.ids.erase id).map (T.row M) ++ [CoderA g E, F])) (l' := T.row M id :: ((T.ids.erase id).map (T.row M) ++ [F])) (.there ?_) hs
      generalize (T.ids.erase id).map (T.row M) = l
      induction l with
      | nil => exact .here
      | cons x l ih => exact .there ih
    exact h2.of fun hs => stars_pack.1 hs
  · rintro ⟨⟩ w' hw'
    refine ⟨(), rfl, ?_⟩
    have h2 := hw'.of fun hs => stars_pack.2 hs
    have hrow : cel (T.blk id) 61 (chs (updR (M id) ix b) (T.len id)) = T.row (evM M (.bit id ix b)) id := by
      unfold Tab.row
      congr 2
      funext j
      simp [evM, upd, updR]
    rw [hrow] at h2
    have h3 : Sat G w' (T.row (evM M (.bit id ix b)) id :: ((T.ids.erase id).map (T.row M) ++ [CoderA g (E.bit (M id ix) b), F])) := by
      refine h2.of fun hs => ?_
      refine Pick.back (A := CoderA g (E.bit (M id ix) b)) (l := T.row (evM M (.bit id ix b)) id :: ((T.ids.erase id).map (T.row M) ++ [CoderA g (E.bit (M id ix) b), F])) (l' := T.row (evM M (.bit id ix b)) id :: ((T.ids.erase id).map (T.row M) ++ [F])) (.there ?_) hs
      generalize (T.ids.erase id).map (T.row M) = l
      induction l with
      | nil => exact .here
      | cons x l ih => exact .there ih
    have h4 := unlend hid hT.nodup (M := M) (fun j hj => by funext k; simp [evM, upd, hj]) h3
    exact h4.unpick (.there .here)
end Go.Proofs.YtfpepghmbeoanaaGreatDoor
end

section
open Go Go.RowKit
namespace Go.Proofs.YtfpepghmbeoanaaGreatDoor
open Lz
def evenEv (v : Nat) : Nat → List Ev
  | 0 => []
  | n + 1 => .even (v.testBit n) :: evenEv v n
def treeEv (id o v : Nat) : Nat → Nat → List Ev
  | 0, _ => []
  | n + 1, m => .bit id (o + m) (v.testBit n) :: treeEv id o v n (2 * m + (v.testBit n).toNat)
def backEv (id o v : Nat) : Nat → Nat → Nat → List Ev
  | 0, _, _ => []
  | k + 1, i, m => .bit id (o + m) (v.testBit i) :: backEv id o v k (i + 1) (2 * m + (v.testBit i).toNat)
theorem evenEv_len (v n : Nat) : (evenEv v n).length = n := by induction n with
  | zero => rfl
  | succ n ih => simp [evenEv, ih]
theorem treeEv_len (id o v : Nat) : ∀ n m, (treeEv id o v n m).length = n
  | 0, _ => rfl
  | n + 1, m => by simp [treeEv, treeEv_len id o v n]
theorem backEv_len (id o v : Nat) : ∀ n i m, (backEv id o v n i m).length = n
  | 0, _, _ => rfl
  | n + 1, i, m => by simp [backEv, backEv_len id o v n]
theorem bit_val (v j : Nat) : (v / 2 ^ j % 2 : Nat) = (v.testBit j).toNat := (Nat.toNat_testBit v j).symm
theorem bit_int (v j : Nat) : ((v / 2 ^ j : Nat) : Int) % 2 = ((v.testBit j).toNat : Int) := by rw [← bit_val]; simp

set_option maxRecDepth 100000 in
theorem even_con (G : Gst) (g v n : Nat) (E : Enc) (hE : Enc.Ok E n) (hn : n ≤ 60) (hv : v < 1099511627776) {M : PM} (hM : PMok M) {vi ni : Int} (hvi : vi = (v : Int)) (hni : ni = (n : Int)) :
    Con Tryz.prog G 32 #[.pointer (some ⟨g, 0, none⟩), .int .i64 vi, .int .i64 ni] [CoderA g E] (fun _ : Unit => .tuple #[]) (fun _ => [CoderA g (Enc.evs M E (evenEv v n))]) := by
  subst hvi hni
  refine Con.intro Tryz.func32 rfl (by kernel_rfl) Tryz.ntmps32 (Nat.le_of_ble_eq_true rfl) ?_
  intro F
  show JC _ _ _ _ _ _ [(0, _), (1, _), (2, _)] _ [_, _]
  refine sR ?_
  refine oM ?_
  refine JO.py (Py.sub xe ev_const wI) ?_
  refine oA ?_
  refine nC (JC.block ?_)
  refine JC.loop (ι := Nat × Enc) (fun i => i.1 ≤ n ∧ Enc.Ok i.2 i.1 ∧ Enc.evs M i.2 (evenEv v i.1) = Enc.evs M E (evenEv v n)) (fun i => [(0, .pointer (some ⟨g, 0, none⟩)), (1, .int .i64 v), (6, .int .i64 ((i.1 : Int) - 1))]) (fun i => [CoderA g i.2, F]) (fun i => i.1) (n, E) ⟨Nat.le_refl _, hE, rfl⟩ xag xpk ?_
  rintro ⟨k, E1⟩ base' ⟨hk, hE1, hev⟩
  dsimp only at hk hE1 hev
  dsimp only
  rcases k with _ | k
  · skip
    refine JC.seq (sR ?_)
    refine oM ?_
    first | refine oD (Py.geq xe ev_const) ?_ | refine oU (Py.geq xe ev_const) ?_ | refine JO.py (Py.geq xe ev_const) ?_
    refine nC ?_
    refine cF ?_
    refine JC.exit (JX.exit (JX.exit (JX.blockE ?_)))
    obtain rfl : E1 = _ := hev
    refine JX.end0 (Or.inr rfl) (()) Tryz.results32 rfl xpk
  · skip
    have hlo := hE1.lo
    have hhi := hE1.hi
    have hlow := hE1.inv.low
    have hcnt := hE1.cnt
    have hheld := hE1.inv.held
    have hcache := hE1.inv.cache
    have hdv := Nat.div_le_self v (2 ^ k)
    have hd0 := Int.natCast_nonneg (v / 2 ^ k)
    have hE2 := Enc.Ok.ev hE1 hM (.even (v.testBit k))
    have hpre : Enc.ev M E1 (.even (v.testBit k)) = (if v.testBit k then { E1 with low := E1.low + E1.span / 2, span := E1.span / 2 } else { E1 with span := E1.span / 2 } : Enc).norm := rfl
    have hev' : Enc.evs M (Enc.ev M E1 (.even (v.testBit k))) (evenEv v k) = Enc.evs M E (evenEv v n) := hev
    have hbi := bit_int v k
    cases hb : v.testBit k
    all_goals
      rw [hb] at hpre hE2 hev' hbi
      simp only [if_true, Bool.false_eq_true, if_false] at hpre
      unfold Enc.norm at hpre
      dsimp only at hpre
      refine JC.open xpick ?_
      rintro sl
      show JC _ _ _ _ _ _ _ _ (_ :: _ :: _ :: _)
      refine JC.seq (sR ?_)
      refine oM ?_
      first | refine oD (Py.geq xe ev_const) ?_ | refine oU (Py.geq xe ev_const) ?_ | refine JO.py (Py.geq xe ev_const) ?_
      refine nC ?_
      refine cT ?_
      refine JC.skip (JX.code (JC.seq (JC.block (sR ?_))))
      refine oM ?_
      refine JO.py (Py.nil xe) ?_
      refine JO.py (Py.fld fld47_1 xe xoff) ?_
      refine JO.py (Py.load scal45 xe xpick xrow) ?_
      refine JO.py (Py.shr 1 2 xe ev_const rfl (by decide) (by decide) (by decide)) ?_
      refine JO.py (Py.nil xe) ?_
      refine JO.py (Py.fld fld47_1 xe xoff) ?_
      refine JO.store siz45 xe xe (by first | rfl | assumption) xpick xsize xnorm ?_
      refine nC (JC.seq (sR ?_))
      refine oM ?_
      refine oM ?_
      refine JO.py (Py.shrN k xe xe (by omega) (by simp only [IntKind.bits]; omega)) ?_
    · skip
      refine JO.py (Py.to (Py.mask 1 2 xe ev_const (by decide) (by decide) (by decide) (r_i64 (by omega)) wI) (v' := .int .i64 0) (vint hbi)) ?_
      first | refine oD (Py.eql xe ev_const) ?_ | refine oU (Py.eql xe ev_const) ?_ | refine JO.py (Py.eql xe ev_const) ?_
      refine nC ?_
      refine cF ?_
      refine JC.skip (JX.code (JC.block ?_))
      by_cases hsp : E1.span / 2 < 16777216
      · skip
        rw [if_pos hsp] at hpre
        have hs2 := shift_span { E1 with span := E1.span / 2 * 256 }
        dsimp only at hs2
        refine JC.unroll 1 ?_
        refine JC.seq (sR ?_)
        refine oM ?_
        refine JO.py (Py.nil xe) ?_
        refine JO.py (Py.fld fld47_1 xe xoff) ?_
        refine JO.py (Py.load scal45 xe xpick xrow) ?_
        first | refine oD (Py.lss xe ev_const) ?_ | refine oU (Py.lss xe ev_const) ?_ | refine JO.py (Py.lss xe ev_const) ?_
        refine nC ?_
        refine cT ?_
        refine JC.skip (JX.code (JC.block (sR ?_)))
        refine oM ?_
        refine JO.py (Py.nil xe) ?_
        refine JO.py (Py.fld fld47_1 xe xoff) ?_
        refine JO.py (Py.load scal45 xe xpick xrow) ?_
        first | refine JO.py (Py.shl 8 256 xe ev_const rfl (by decide) (by decide) (w_u32 (by omega))) ?_ | refine JO.py (Py.shl 8 256 xe ev_const rfl (by decide) (by decide) (m_u32 _)) ?_
        refine JO.py (Py.nil xe) ?_
        refine JO.py (Py.fld fld47_1 xe xoff) ?_
        refine JO.store siz45 xe xe (by first | rfl | assumption) xpick xsize xnorm ?_
        refine nC (JC.region ?_)
        refine oM ?_
        refine JO.call (Evs.cons xe Evs.nil) (shift_con G g { E1 with span := E1.span / 2 * 256 } hheld (by dsimp only; omega) hcache (by unfold Enc.cnt at hcnt ⊢; dsimp only; omega)) xpk ?_
        rintro _
        show JO _ _ _ _ _ _ _ ((50, _) :: _) _ (_ :: _ :: _)
        refine JO.open xpick ?_
        rintro sl2
        show JO _ _ _ _ _ _ _ _ _ (_ :: _ :: _ :: _)
        refine JO.nil (JX.blockN (JX.again (JC.seq (sR ?_))))
        refine oM ?_
        refine JO.py (Py.nil xe) ?_
        refine JO.py (Py.fld fld47_1 xe xoff) ?_
        refine JO.py (Py.load scal45 xe xpick xrow) ?_
        first | refine oD (Py.lss xe ev_const) ?_ | refine oU (Py.lss xe ev_const) ?_ | refine JO.py (Py.lss xe ev_const) ?_
        refine nC ?_
        refine cF ?_
        refine JC.exit (JX.exit (JX.exit (JX.blockE (JX.blockN (JX.code (JC.region ?_))))))
        refine oM ?_
        refine JO.py (Py.sub xe ev_const wI) ?_
        refine oA ?_
        refine JO.nil ?_
        refine JX.loop (k, Enc.ev M E1 (.even false)) ⟨by dsimp only; omega, hE2, hev'⟩ (by dsimp only; omega) xag (by rw [hpre]; (try dsimp only); exact xpicks)
      · skip
        rw [if_neg hsp] at hpre
        refine JC.unroll 0 ?_
        refine JC.seq (sR ?_)
        refine oM ?_
        refine JO.py (Py.nil xe) ?_
        refine JO.py (Py.fld fld47_1 xe xoff) ?_
        refine JO.py (Py.load scal45 xe xpick xrow) ?_
        first | refine oD (Py.lss xe ev_const) ?_ | refine oU (Py.lss xe ev_const) ?_ | refine JO.py (Py.lss xe ev_const) ?_
        refine nC ?_
        refine cF ?_
        refine JC.exit (JX.exit (JX.exit (JX.blockE (JX.blockN (JX.code (JC.region ?_))))))
        refine oM ?_
        refine JO.py (Py.sub xe ev_const wI) ?_
        refine oA ?_
        refine JO.nil ?_
        refine JX.loop (k, Enc.ev M E1 (.even false)) ⟨by dsimp only; omega, hE2, hev'⟩ (by dsimp only; omega) xag (by rw [hpre]; (try dsimp only); exact xpicks)
    · skip
      refine JO.py (Py.to (Py.mask 1 2 xe ev_const (by decide) (by decide) (by decide) (r_i64 (by omega)) wI) (v' := .int .i64 1) (vint hbi)) ?_
      first | refine oD (Py.eql xe ev_const) ?_ | refine oU (Py.eql xe ev_const) ?_ | refine JO.py (Py.eql xe ev_const) ?_
      refine nC ?_
      refine cT ?_
      refine JC.regionM [(0, true), (1, true), (2, true), (3, true), (4, true), (5, true), (6, true), (7, true), (8, true), (9, true), (10, true), (11, true), (12, false)] mixed (by kernel_rfl) ?_
      refine JM.py ao ⟨fun _ => Py.move xe⟩ ?_
      refine JM.py ao ⟨fun _ => Py.nil xe⟩ ?_
      refine JM.py ao ⟨fun _ => Py.fld fld47_0 xe xoff⟩ ?_
      refine JM.ld ao scal43 xe xpick xrow ?_
      refine JM.py ao ⟨fun _ => Py.move xe⟩ ?_
      refine JM.py ao ⟨fun _ => Py.nil xe⟩ ?_
      refine JM.py ao ⟨fun _ => Py.fld fld47_1 xe xoff⟩ ?_
      refine JM.ld ao scal45 xe xpick xrow ?_
      first | refine JM.py ao ⟨fun _ => Py.conv cnv45_43 xe (w_u64 (by omega))⟩ ?_ | refine JM.py ao ⟨fun _ => Py.conv cnv45_43 xe (m_u64 _)⟩ ?_
      first | refine JM.py ao ⟨fun _ => Py.add xe xe (w_u64 (by omega))⟩ ?_ | refine JM.py ao ⟨fun _ => Py.add xe xe (m_u64 _)⟩ ?_
      refine JM.py ao ⟨fun _ => Py.nil xe⟩ ?_
      refine JM.py ao ⟨fun _ => Py.fld fld47_0 xe xoff⟩ ?_
      refine JM.eff ao ?_
      refine JO.store siz43 xe xe (by first | rfl | assumption) xpick xsize xnorm ?_
      refine JO.nil ?_
      refine JX.mix (Kept.drop (Forced.step (by kernel_rfl)) (Kept.drop (Forced.step (by kernel_rfl)) Kept.nil)) ?_
      refine JM.nil (JX.code (JC.block ?_))
      by_cases hsp : E1.span / 2 < 16777216
      · skip
        rw [if_pos hsp] at hpre
        have hs2 := shift_span { E1 with low := E1.low + E1.span / 2, span := E1.span / 2 * 256 }
        dsimp only at hs2
        refine JC.unroll 1 ?_
        refine JC.seq (sR ?_)
        refine oM ?_
        refine JO.py (Py.nil xe) ?_
        refine JO.py (Py.fld fld47_1 xe xoff) ?_
        refine JO.py (Py.load scal45 xe xpick xrow) ?_
        first | refine oD (Py.lss xe ev_const) ?_ | refine oU (Py.lss xe ev_const) ?_ | refine JO.py (Py.lss xe ev_const) ?_
        refine nC ?_
        refine cT ?_
        refine JC.skip (JX.code (JC.block (sR ?_)))
        refine oM ?_
        refine JO.py (Py.nil xe) ?_
        refine JO.py (Py.fld fld47_1 xe xoff) ?_
        refine JO.py (Py.load scal45 xe xpick xrow) ?_
        first | refine JO.py (Py.shl 8 256 xe ev_const rfl (by decide) (by decide) (w_u32 (by omega))) ?_ | refine JO.py (Py.shl 8 256 xe ev_const rfl (by decide) (by decide) (m_u32 _)) ?_
        refine JO.py (Py.nil xe) ?_
        refine JO.py (Py.fld fld47_1 xe xoff) ?_
        refine JO.store siz45 xe xe (by first | rfl | assumption) xpick xsize xnorm ?_
        refine nC (JC.region ?_)
        refine oM ?_
        refine JO.call (Evs.cons xe Evs.nil) (shift_con G g { E1 with low := E1.low + E1.span / 2, span := E1.span / 2 * 256 } hheld (by dsimp only; omega) hcache (by unfold Enc.cnt at hcnt ⊢; dsimp only; omega)) xpk ?_
        rintro _
        show JO _ _ _ _ _ _ _ ((50, _) :: _) _ (_ :: _ :: _)
        refine JO.open xpick ?_
        rintro sl2
        show JO _ _ _ _ _ _ _ _ _ (_ :: _ :: _ :: _)
        refine JO.nil (JX.blockN (JX.again (JC.seq (sR ?_))))
        refine oM ?_
        refine JO.py (Py.nil xe) ?_
        refine JO.py (Py.fld fld47_1 xe xoff) ?_
        refine JO.py (Py.load scal45 xe xpick xrow) ?_
        first | refine oD (Py.lss xe ev_const) ?_ | refine oU (Py.lss xe ev_const) ?_ | refine JO.py (Py.lss xe ev_const) ?_
        refine nC ?_
        refine cF ?_
        refine JC.exit (JX.exit (JX.exit (JX.blockE (JX.blockN (JX.code (JC.region ?_))))))
        refine oM ?_
        refine JO.py (Py.sub xe ev_const wI) ?_
        refine oA ?_
        refine JO.nil ?_
        refine JX.loop (k, Enc.ev M E1 (.even true)) ⟨by dsimp only; omega, hE2, hev'⟩ (by dsimp only; omega) xag (by rw [hpre]; (try dsimp only); exact xpicks)
      · skip
        rw [if_neg hsp] at hpre
        refine JC.unroll 0 ?_
        refine JC.seq (sR ?_)
        refine oM ?_
        refine JO.py (Py.nil xe) ?_
        refine JO.py (Py.fld fld47_1 xe xoff) ?_
        refine JO.py (Py.load scal45 xe xpick xrow) ?_
        first | refine oD (Py.lss xe ev_const) ?_ | refine oU (Py.lss xe ev_const) ?_ | refine JO.py (Py.lss xe ev_const) ?_
        refine nC ?_
        refine cF ?_
        refine JC.exit (JX.exit (JX.exit (JX.blockE (JX.blockN (JX.code (JC.region ?_))))))
        refine oM ?_
        refine JO.py (Py.sub xe ev_const wI) ?_
        refine oA ?_
        refine JO.nil ?_
        refine JX.loop (k, Enc.ev M E1 (.even true)) ⟨by dsimp only; omega, hE2, hev'⟩ (by dsimp only; omega) xag (by rw [hpre]; (try dsimp only); exact xpicks)

set_option maxRecDepth 100000 in
theorem tree_con (G : Gst) (g : Nat) (T : Tab) (hT : T.Ok) (M : PM) (hM : PMok M) (E : Enc) (id o v n len cap : Nat) (hE : Enc.Ok E n) (hn : n ≤ 60) (hv : v < 1099511627776) (hid : id ∈ T.ids)
    (hl : o + 2 ^ n ≤ T.len id) (hl2 : 2 ^ n ≤ len) (hl3 : len ≤ 1000000) {vi ni : Int} (hvi : vi = (v : Int)) (hni : ni = (n : Int)) :
    Con Tryz.prog G 30 #[.pointer (some ⟨g, 0, none⟩), .slice (some ⟨T.blk id, o, none⟩) len cap, .int .i64 vi, .int .i64 ni] [CoderA g E, Chances T M] (fun _ : Unit => .tuple #[])
      (fun _ => [CoderA g (Enc.evs M E (treeEv id o v n 1)), Chances T (evsM M (treeEv id o v n 1))]) := by
  subst hvi hni
  refine Con.intro Tryz.func30 rfl (by kernel_rfl) Tryz.ntmps30 (Nat.le_of_ble_eq_true rfl) ?_
  intro F
  show JC _ _ _ _ _ _ [(0, _), (1, _), (2, _), (3, _)] _ [_, _, _]
  refine sR ?_
  refine oC ?_
  refine nC (sR ?_)
  refine oM ?_
  refine JO.py (Py.sub xe ev_const wI) ?_
  refine oA ?_
  refine nC (JC.block ?_)
  refine JC.loop (ι := Nat × Nat × PM × Enc) (fun i => i.1 ≤ n ∧ (i.2.1 + 1) * 2 ^ i.1 ≤ 2 * 2 ^ n ∧ PMok i.2.2.1 ∧ Enc.Ok i.2.2.2 i.1 ∧ Enc.evs i.2.2.1 i.2.2.2 (treeEv id o v i.1 i.2.1) = Enc.evs M E (treeEv id o v n 1) ∧ evsM i.2.2.1 (treeEv id o v i.1 i.2.1) = evsM M (treeEv id o v n 1))
    (fun i => [(0, .pointer (some ⟨g, 0, none⟩)), (1, .slice (some ⟨T.blk id, o, none⟩) len cap), (2, .int .i64 v), (8, .int .i64 i.2.1), (9, .int .i64 ((i.1 : Int) - 1))]) (fun i => [CoderA g i.2.2.2, Chances T i.2.2.1, F]) (fun i => i.1) (n, 1, M, E) ⟨Nat.le_refl _, Nat.le_refl _, hM, hE, rfl, rfl⟩ xag xpk ?_
  rintro ⟨k, m, M1, E1⟩ base' ⟨hk, hm, hM1, hE1, hev, hev2⟩
  dsimp only at hk hm hM1 hE1 hev hev2
  dsimp only
  rcases k with _ | k
  · skip
    refine JC.seq (sR ?_)
    refine oM ?_
    first | refine oD (Py.geq xe ev_const) ?_ | refine oU (Py.geq xe ev_const) ?_ | refine JO.py (Py.geq xe ev_const) ?_
    refine nC ?_
    refine cF ?_
    refine JC.exit (JX.exit (JX.exit (JX.blockE ?_)))
    obtain rfl : E1 = _ := hev
    obtain rfl : M1 = _ := hev2
    refine JX.end0 (Or.inr rfl) (()) Tryz.results30 rfl xpk
  · skip
    have hdv := Nat.div_le_self v (2 ^ k)
    have hd0 := Int.natCast_nonneg (v / 2 ^ k)
    have hb1 : (v.testBit k).toNat ≤ 1 := by cases v.testBit k <;> simp
    have hpk : 0 < 2 ^ k := Nat.pow_pos (by decide)
    have hm1 : (m + 1) * 2 ≤ 2 * 2 ^ n := by
      refine Nat.le_trans ?_ hm
      rw [Nat.pow_succ, Nat.mul_comm (2 ^ k) 2, ← Nat.mul_assoc]
      exact Nat.le_mul_of_pos_right _ hpk
    have hm2 : (2 * m + (v.testBit k).toNat + 1) * 2 ^ k ≤ 2 * 2 ^ n := by
      refine Nat.le_trans ?_ hm
      rw [Nat.pow_succ, Nat.mul_comm (2 ^ k) 2, ← Nat.mul_assoc]
      exact Nat.mul_le_mul_right _ (by omega)
    obtain ⟨pn, hpn⟩ : ∃ pn, 2 ^ n = pn := ⟨_, rfl⟩
    rw [hpn] at hm1 hl hl2
    have hE1b : Enc.Ok E1 1 := hE1.mono (by omega)
    have hE2 := Enc.Ok.ev hE1 hM1 (.bit id (o + m) (v.testBit k))
    refine JC.seq (sR ?_)
    refine oM ?_
    first | refine oD (Py.geq xe ev_const) ?_ | refine oU (Py.geq xe ev_const) ?_ | refine JO.py (Py.geq xe ev_const) ?_
    refine nC ?_
    refine cT ?_
    refine JC.skip (JX.code (JC.seq (JC.block (sR ?_))))
    refine oM ?_
    refine oM ?_
    refine JO.py (Py.shrN k xe xe (by omega) (by simp only [IntKind.bits]; omega)) ?_
    refine JO.py (Py.to (Py.mask 1 2 xe ev_const (by decide) (by decide) (by decide) (r_i64 (by omega)) wI) (vint (bit_int v k))) ?_
    refine oA ?_
    refine nC (sR ?_)
    refine oM ?_
    refine oM ?_
    refine oM ?_
    refine JO.py (Py.idxS Tryz.underlying48 siz61 xe xe (by omega) xidx xmult) ?_
    refine oM ?_
    refine JO.call (Evs.cons xe (Evs.cons xe (Evs.cons xe Evs.nil))) (bitM hT hM1 hE1b hid (ix := o + m) (by omega) (v.testBit k) rfl) xpk ?_
    rintro _
    show JO _ _ _ _ _ _ _ ((26, _) :: _) _ (_ :: _ :: _ :: _)
    refine nC (JC.region ?_)
    refine oM ?_
    refine JO.py (Py.mul ev_const xe wI) ?_
    refine oM ?_
    refine JO.py (Py.add xe xe wI) ?_
    refine oA ?_
    refine JO.nil (JX.blockN (JX.code (JC.region ?_)))
    refine oM ?_
    refine JO.py (Py.sub xe ev_const wI) ?_
    refine oA ?_
    refine JO.nil ?_
    refine JX.loop (k, 2 * m + (v.testBit k).toNat, evM M1 (.bit id (o + m) (v.testBit k)), Enc.ev M1 E1 (.bit id (o + m) (v.testBit k))) ⟨by dsimp only; omega, by rw [← hpn] at *; exact hm2, by dsimp only; exact evM_ok hM1 _, hE2, hev, hev2⟩ (by dsimp only; omega) xag xpk

set_option maxRecDepth 100000 in
theorem back_con (G : Gst) (g : Nat) (T : Tab) (hT : T.Ok) (M : PM) (hM : PMok M) (E : Enc) (id o v n len cap : Nat) (hE : Enc.Ok E n) (hn : n ≤ 60) (hv : v < 1099511627776) (hid : id ∈ T.ids)
    (hl : o + 2 ^ n ≤ T.len id) (hl2 : 2 ^ n ≤ len) (hl3 : len ≤ 1000000) {vi ni : Int} (hvi : vi = (v : Int)) (hni : ni = (n : Int)) :
    Con Tryz.prog G 31 #[.pointer (some ⟨g, 0, none⟩), .slice (some ⟨T.blk id, o, none⟩) len cap, .int .i64 vi, .int .i64 ni] [CoderA g E, Chances T M] (fun _ : Unit => .tuple #[])
      (fun _ => [CoderA g (Enc.evs M E (backEv id o v n 0 1)), Chances T (evsM M (backEv id o v n 0 1))]) := by
  subst hvi hni
  refine Con.intro Tryz.func31 rfl (by kernel_rfl) Tryz.ntmps31 (Nat.le_of_ble_eq_true rfl) ?_
  intro F
  show JC _ _ _ _ _ _ [(0, _), (1, _), (2, _), (3, _)] _ [_, _, _]
  refine sR ?_
  refine oC ?_
  refine nC (sR ?_)
  refine oM ?_
  refine JO.py (Py.move ev_const) ?_
  refine nC (JC.block ?_)
  refine JC.loop (ι := Nat × Nat × PM × Enc) (fun i => i.1 ≤ n ∧ (i.2.1 + 1) * 2 ^ i.1 ≤ 2 * 2 ^ n ∧ PMok i.2.2.1 ∧ Enc.Ok i.2.2.2 i.1 ∧ Enc.evs i.2.2.1 i.2.2.2 (backEv id o v i.1 (n - i.1) i.2.1) = Enc.evs M E (backEv id o v n 0 1) ∧ evsM i.2.2.1 (backEv id o v i.1 (n - i.1) i.2.1) = evsM M (backEv id o v n 0 1))
    (fun i => [(0, .pointer (some ⟨g, 0, none⟩)), (1, .slice (some ⟨T.blk id, o, none⟩) len cap), (2, .int .i64 v), (8, .int .i64 i.2.1), (11, .int .i64 n), (12, .int .i64 ((n - i.1 : Nat) : Int))]) (fun i => [CoderA g i.2.2.2, Chances T i.2.2.1, F]) (fun i => i.1) (n, 1, M, E) ⟨Nat.le_refl _, Nat.le_refl _, hM, hE, by simp only [Nat.sub_self], by simp only [Nat.sub_self]⟩ xag xpk ?_
  rintro ⟨k, m, M1, E1⟩ base' ⟨hk, hm, hM1, hE1, hev, hev2⟩
  dsimp only at hk hm hM1 hE1 hev hev2
  dsimp only
  rcases k with _ | k
  · skip
    refine sR ?_
    first | refine oD (Py.lss xe xe) ?_ | refine oU (Py.lss xe xe) ?_ | refine JO.py (Py.lss xe xe) ?_
    refine nC (JC.seq ?_)
    refine cF ?_
    refine JC.exit (JX.exit (JX.exit (JX.blockE ?_)))
    obtain rfl : E1 = _ := hev
    obtain rfl : M1 = _ := hev2
    refine JX.end0 (Or.inr rfl) (()) Tryz.results31 rfl xpk
  · skip
    obtain ⟨i, hi⟩ : ∃ i, n - (k + 1) = i := ⟨_, rfl⟩
    have hi2 : n - k = i + 1 := by omega
    rw [hi] at hev hev2 ⊢
    have hdv := Nat.div_le_self v (2 ^ i)
    have hd0 := Int.natCast_nonneg (v / 2 ^ i)
    have hb1 : (v.testBit i).toNat ≤ 1 := by cases v.testBit i <;> simp
    have hpk : 0 < 2 ^ k := Nat.pow_pos (by decide)
    have hm1 : (m + 1) * 2 ≤ 2 * 2 ^ n := by
      refine Nat.le_trans ?_ hm
      rw [Nat.pow_succ, Nat.mul_comm (2 ^ k) 2, ← Nat.mul_assoc]
      exact Nat.le_mul_of_pos_right _ hpk
    have hm2 : (2 * m + (v.testBit i).toNat + 1) * 2 ^ k ≤ 2 * 2 ^ n := by
      refine Nat.le_trans ?_ hm
      rw [Nat.pow_succ, Nat.mul_comm (2 ^ k) 2, ← Nat.mul_assoc]
      exact Nat.mul_le_mul_right _ (by omega)
    obtain ⟨pn, hpn⟩ : ∃ pn, 2 ^ n = pn := ⟨_, rfl⟩
    rw [hpn] at hm1 hl hl2
    have hE1b : Enc.Ok E1 1 := hE1.mono (by omega)
    have hE2 := Enc.Ok.ev hE1 hM1 (.bit id (o + m) (v.testBit i))
    refine sR ?_
    first | refine oD (Py.lss xe xe) ?_ | refine oU (Py.lss xe xe) ?_ | refine JO.py (Py.lss xe xe) ?_
    refine nC (JC.seq ?_)
    refine cT ?_
    refine JC.skip (JX.code (JC.seq (JC.block (sR ?_))))
    refine oM ?_
    refine oA ?_
    refine nC (sR ?_)
    refine oM ?_
    refine oM ?_
    refine JO.py (Py.shrN i xe xe (by omega) (by simp only [IntKind.bits]; omega)) ?_
    refine JO.py (Py.to (Py.mask 1 2 xe ev_const (by decide) (by decide) (by decide) (r_i64 (by omega)) wI) (vint (bit_int v i))) ?_
    refine oA ?_
    refine nC (sR ?_)
    refine oM ?_
    refine oM ?_
    refine oM ?_
    refine JO.py (Py.idxS Tryz.underlying48 siz61 xe xe (by omega) xidx xmult) ?_
    refine oM ?_
    refine JO.call (Evs.cons xe (Evs.cons xe (Evs.cons xe Evs.nil))) (bitM hT hM1 hE1b hid (ix := o + m) (by omega) (v.testBit i) rfl) xpk ?_
    rintro _
    show JO _ _ _ _ _ _ _ ((24, _) :: _) _ (_ :: _ :: _ :: _)
    refine nC (JC.region ?_)
    refine oM ?_
    refine JO.py (Py.mul ev_const xe wI) ?_
    refine oM ?_
    refine JO.py (Py.add xe xe wI) ?_
    refine oA ?_
    refine JO.nil (JX.blockN (JX.code (JC.region ?_)))
    refine JO.py (Py.add xe ev_const wI) ?_
    refine oM ?_
    refine JO.nil ?_
    refine JX.loop (k, 2 * m + (v.testBit i).toNat, evM M1 (.bit id (o + m) (v.testBit i)), Enc.ev M1 E1 (.bit id (o + m) (v.testBit i))) ⟨by dsimp only; omega, by rw [← hpn] at *; exact hm2, by dsimp only; exact evM_ok hM1 _, hE2, by dsimp only; rw [hi2]; exact hev, by dsimp only; rw [hi2]; exact hev2⟩ (by dsimp only; omega) xag xpk
end Go.Proofs.YtfpepghmbeoanaaGreatDoor
end
