/-
More laws: copy.
More laws: a result that is a variable's whole, slices of arrays.
More laws: interfaces asserted, methods as values, functions that a variable holds, strings.
More laws: a deferred call that finds nothing to recover, append of zeros, rows opened.
More laws: methods found, nil against what is held.
An error is itself.
Rows, readers and buffers, cut out of the texts of the other claims.
Calls and jumps of x86: the filter and its inverse over plain numbers.
The filters of words of four bytes and their inverses over plain numbers.
-/
import Derived.Test.YtfpepghmbeoanaaGreatDoorR02
import Derived.Laws.CopyRow
import Derived.Laws.IdiomCopy
import Derived.Stop.Asserts
import Derived.Laws.IdiomStrings
import Derived.Laws.Cover3
import Derived.Lib.AppendZeros
import Derived.Lib.ByteType
import Derived.Tactics
import Derived.Tactics2
import Derived.Defers
import Derived.Recover
import Derived.WalkKit
import Derived.LaidEql
import Derived.RowKitTokens
set_option linter.unusedSimpArgs false
set_option linter.unusedVariables false
section
open Go Go.RowKit
namespace Go.Proofs.YtfpepghmbeoanaaGreatDoor
section
variable {P : Program} {G : Gst} {ops : Array Oper} {Q : Exit → Act → World → Prop} {n : Nat} {base : Nat → Value} {L : List (Nat × Value)} {D : List Deferred} {As r : List Asn}
  {ty : TypeId} {pos : String} {aft : Array Edge} {rest : List Oper}
/-- These values are read from this place on. -/
def Reads (G : Gst) (As : List Asn) (a : Addr) (news : List Value) : Prop := ∀ w, Sat G w As → ∀ j v, news[j]? = some v → w.cell? (a.add j) = some v
theorem Reads.cel {b o : Nat} {T : TypeId} {fr : Nat × Nat} {ss : Array Value} {news : List Value} (q : Pick (blk b (.cells ss T fr)) As r) (h : ∀ j v, news[j]? = some v → ss[o + j]? = some v) : Reads G As ⟨b, o, none⟩ news := by
  intro w hw j v hj
  have : (⟨b, o, none⟩ : Addr).add j = ⟨b, o + j, none⟩ := by unfold Addr.add; split <;> simp_all
  rw [this]
  exact hw.cell q (h j v hj)
theorem Sat.row {w : World} {b : Nat} {T : TypeId} {cs cs' : Array Value} (hw : Sat G w (cel b T cs :: r)) : Sat G (w.setRow b cs') (cel b T cs' :: r) :=
  hw.turn rfl rfl rfl (fun k hk => setRow_other w b k cs' hk) (setRow_heap w b cs cs' T (0, 0) hw.block)
/-- 'copy(dst, src)' into cells of one's own. -/
theorem JO.copy {dT sT e : TypeId} {d : Nat} {x y : Operand} {b o dl dc sl sc m : Nat} {a : Addr} {T : TypeId} {cs cs' : Array Value} {news : List Value}
    (ht : P.underlying dT = some (.slice e)) (hz : (P.info? e).map (·.size) = some 1) (hx : ev n base L x = .slice (some ⟨b, o, none⟩) dl dc) (hy : ev n base L y = .slice (some a) sl sc) (hl : news.length = m) (hm : min sl dl = m)
    (q : Pick (cel b T cs) As r) (hs : Reads G As a news) (hf : o + m ≤ cs.size) (h1 : ∀ v ∈ news, v.oneCell' = true) (hc : (cs.toList.take o ++ news ++ cs.toList.drop (o + m)).toArray = cs')
    (k : JO P G ops Q rest n base ((d, .int .i64 (m : Int)) :: L) D (cel b T cs' :: r)) :
    JO P G ops Q (⟨some d, .call { callee := .builtin .copy, args := #[x, y], argTypes := #[dT, sT] }, ty, pos, aft, none⟩ :: rest) n base L D As := by
  subst hl
  refine ⟨fun w hw => ?_⟩
  refine wpList_plain rfl fun K hK => ?_
  show Oper.upon P _ _ _ _ _
  have hw2 := hw.pick q
  have hr := run_copy_row P w dT sT ty e b o dl dc a sl sc cs T news ht hz hw2.block hm.symm (hs w hw) hf h1
  rw [hc] at hr
  have e : (execOp (frm n base L D).eval ⟨some d, .call { callee := .builtin .copy, args := #[x, y], argTypes := #[dT, sT] }, ty, pos, aft, none⟩).run P w = .ok (.value (.int .i64 (news.length : Int))) (w.setRow b cs') := by
    rw [frm_eval]
    simp [execOp, resolve, Go.invoke, Go.builtin, hx, hy, hr, goInt]
  rw [e]
  show K _ _
  rw [show (frm n base L D).put _ _ = _ from frm_put d _]
  exact hK _ _ (k.run _ hw2.row)
/-- A struct that an interface value holds. -/
theorem Py.asT {xt at_ : TypeId} {x : Operand} {fs : Array Field} {v : Value} (hu : P.underlying at_ = some (.struct fs)) (hx : ev n base L x = .iface at_ v) : Py P G n base L As (.typeAssert x xt at_ true) (.tuple #[v, .bool true]) := by
  refine ⟨fun w _ o ho => ?_⟩
  simp [execOp, ho, hx, Instr.typeAssert, run_underlying hu]
theorem Py.asF {xt at_ t : TypeId} {x : Operand} {fs : Array Field} {v z : Value} (hu : P.underlying at_ = some (.struct fs)) (hz : Zer P at_ z) (hx : ev n base L x = .iface t v) (hn : Nat.beq t at_ = false) : Py P G n base L As (.typeAssert x xt at_ true) (.tuple #[z, .bool false]) := by
  refine ⟨fun w _ o ho => ?_⟩
  have hne : ¬ t = at_ := fun e => by subst e; simp at hn
  simp [execOp, ho, hx, Instr.typeAssert, run_underlying hu, hne, hz w]
/-- A pointer that an interface value holds, against itself. -/
theorem run_eqsame {t tx elem : TypeId} {k : Nat} {ms : Array (String × TypeId)} {a : Addr} (ht : P.underlying t = some (.interface ms)) (hi : (P.info? tx).map (·.comparable) = some true) (hu : P.underlying tx = some (.pointer elem)) (hz : Siz P elem (k + 1)) (w : World) :
    (binOp .eql t (.iface tx (.pointer (some a))) (.iface tx (.pointer (some a)))).run P w = .ok (.bool true) w ∧ (binOp .neq t (.iface tx (.pointer (some a))) (.iface tx (.pointer (some a)))).run P w = .ok (.bool false) w := by
  obtain ⟨i, hi, hc⟩ : ∃ i, P.info? tx = some i ∧ i.comparable = true := by
    cases hq : P.info? tx with
    | none => simp [hq] at hi
    | some i => exact ⟨i, rfl, by simpa [hq] using hi⟩
  have h1 : ∀ d : Nat, (Op.equalIn (d + 1) tx (.pointer (some a)) (.pointer (some a))).run P w = .ok true w := by
    intro d
    simp [Op.equalIn, run_underlying hu, hz w, sameAddr]
  have h : ∀ d : Nat, (Op.equalIn (d + 1 + 1) t (.iface tx (.pointer (some a))) (.iface tx (.pointer (some a)))).run P w = .ok true w := by
    intro d
    rw [Op.equalIn]
    simp [run_underlying ht, typeInfo, hi, hc, h1 d]
  constructor
  · simp only [binOp]; simp [Op.equal, Op.maxDepth, h 9998]
  · simp only [binOp]; simp [Op.equal, Op.maxDepth, h 9998]
theorem Py.neqSame {xt yt tx elem : TypeId} {x y : Operand} {k : Nat} {ms : Array (String × TypeId)} {a : Addr} (ht : P.underlying xt = some (.interface ms)) (hi : (P.info? tx).map (·.comparable) = some true) (hu : P.underlying tx = some (.pointer elem)) (hz : Siz P elem (k + 1)) (hx : ev n base L x = .iface tx (.pointer (some a))) (hy : ev n base L y = .iface tx (.pointer (some a))) :
    Py P G n base L As (.binOp .neq xt x y yt) (.bool false) := by
  refine ⟨fun w _ o ho => ?_⟩
  have hg : (eqGuard .neq xt x y (.iface tx (.pointer (some a))) (.iface tx (.pointer (some a)))).run P w = .ok () w := by simp [eqGuard]
  simp only [execOp, ho, hx, hy, Sem.run_bind, hg, Result.andThen_ok, (run_eqsame ht hi hu hz w).2, Sem.run_pure]
theorem Py.eqlSame {xt yt tx elem : TypeId} {x y : Operand} {k : Nat} {ms : Array (String × TypeId)} {a : Addr} (ht : P.underlying xt = some (.interface ms)) (hi : (P.info? tx).map (·.comparable) = some true) (hu : P.underlying tx = some (.pointer elem)) (hz : Siz P elem (k + 1)) (hx : ev n base L x = .iface tx (.pointer (some a))) (hy : ev n base L y = .iface tx (.pointer (some a))) :
    Py P G n base L As (.binOp .eql xt x y yt) (.bool true) := by
  refine ⟨fun w _ o ho => ?_⟩
  have hg : (eqGuard .eql xt x y (.iface tx (.pointer (some a))) (.iface tx (.pointer (some a)))).run P w = .ok () w := by simp [eqGuard]
  simp only [execOp, ho, hx, hy, Sem.run_bind, hg, Result.andThen_ok, (run_eqsame ht hi hu hz w).1, Sem.run_pure]
end
theorem siz217 : Siz Tryz.prog 217 1 := fun _ => by kernel_rfl
theorem comp215 : (Tryz.prog.info? 215).map (·.comparable) = some true := by kernel_rfl
theorem not_t : (!true) = false := rfl
theorem not_f : (!false) = true := rfl
theorem info5 : (Tryz.prog.info? 5).map (·.size) = some 1 := by kernel_rfl
end Go.Proofs.YtfpepghmbeoanaaGreatDoor
end

section
open Go Go.RowKit
namespace Go.Proofs.YtfpepghmbeoanaaGreatDoor
section
variable {P : Program} {G : Gst} {ops : Array Oper} {Q : Exit → Act → World → Prop} {n : Nat} {base : Nat → Value} {L : List (Nat × Value)} {D : List Deferred} {As r r' : List Asn}
theorem JX.endC1 {fn : Func} {ι : Type} {v : ι → Value} {Post : ι → List Asn} {F : Asn} {e : Exit} {t b k : Nat} {ty : TypeId} {T : TypeId} {fr : Nat × Nat} {cs vs : Array Value} (he : e = .ret ∨ e = .normal) (i : ι) (hr : fn.results = #[.cell t ty]) (ht : ev n base L (.tmp t) = .pointer (some ⟨b, 0, none⟩)) (hs : Aggr P ty k)
    (q0 : Pick (blk b (.cells cs T fr)) As r) (hk : k ≤ cs.size) (hv : cs.extract 0 k = vs) (hv2 : Value.agg vs = v i) (q : Picks (Post i ++ [F]) As r') :
    JX G (bodyPost P fn fun e w' => ∃ i, e = .returned (v i) ∧ Sat G w' (Post i ++ [F])) e n base L [] As :=
  ⟨fun w hw => bodyPost_any he i (u := .agg vs) (by
    have hc := run_loadCells (P := P) (hw.block_of q0) 0 k (by omega)
    rw [Nat.zero_add, hv] at hc
    have hg := getD_ev (D := []) (n := n) (base := base) (L := L) t
    have hg2 : (frm n base L []).tmps[t]?.getD undef = .pointer (some ⟨b, 0, none⟩) := by rw [← ht, ← hg]; simp
    simp only [results, hr]
    simp [hg2, asAddr, loadVar, (hs w).1, (hs w).2, hc]) hv2 q hw⟩
/-- An array as a slice. -/
theorem Py.slcP {t e : TypeId} {x : Operand} {sz b o m : Nat} (ht : P.underlying t = some (.array m e)) (hz : Siz P e sz) (hx : ev n base L x = .pointer (some ⟨b, o, none⟩)) (hm : 0 < m) :
    Py P G n base L As (.slice t x none none none) (.slice (some ⟨b, o, none⟩) m m) := by
  refine ⟨fun w _ o' ho => ?_⟩
  have h0 : ¬ m = 0 := by omega
  simp [execOp, ho, hx, Instr.sliceAt, run_underlying ht, Instr.sureAddr, Instr.sliceBounds, hz w, h0, Addr.add]
end
section
variable {P : Program} {G : Gst} {ops : Array Oper} {Q : Exit → Act → World → Prop} {n : Nat} {base : Nat → Value} {L : List (Nat × Value)} {D : List Deferred} {As r : List Asn}
  {ty : TypeId} {pos : String} {aft : Array Edge} {rest : List Oper}
theorem JO.storeB {t : TypeId} {x y : Operand} {b i m : Nat} {T : TypeId} {cs vs : Array Value} (hz : Siz P t m) (hx : ev n base L x = .pointer (some ⟨b, i, none⟩)) (hy : ev n base L y = .agg vs) (hm : vs.size = m) (h1 : ∀ v ∈ vs.toList, v.oneCell' = true)
    (q : Pick (cel b T cs) As r) (hi : i + vs.size ≤ cs.size) {cs' : Array Value} (hcs : putAll cs i vs.toList = cs') (k : JO P G ops Q rest n base L D (cel b T cs' :: r)) :
    JO P G ops Q (⟨none, .store t x y, ty, pos, aft, none⟩ :: rest) n base L D As := by
  subst hm
  exact JO.storeA hz hx hy h1 q hi hcs k
end
theorem agg260 : Aggr Tryz.prog 260 2 := fun _ => ⟨by kernel_rfl, by kernel_rfl⟩
theorem agg265 : Aggr Tryz.prog 265 2 := fun _ => ⟨by kernel_rfl, by kernel_rfl⟩
end Go.Proofs.YtfpepghmbeoanaaGreatDoor
end

section
open Go Go.RowKit
namespace Go.Proofs.YtfpepghmbeoanaaGreatDoor
section
variable {P : Program} {G : Gst} {ops : Array Oper} {Q : Exit → Act → World → Prop} {n : Nat} {base : Nat → Value} {L : List (Nat × Value)} {D : List Deferred} {As r : List Asn}
  {ty : TypeId} {pos : String} {aft : Array Edge} {rest : List Oper}
theorem Py.asI {xt at_ t : TypeId} {x : Operand} {want : Array (String × TypeId)} {v : Value} (hu : P.underlying at_ = some (.interface want)) (h : (P.info? t).map (fun i => (lacking want i.methods).isEmpty) = some true) (hx : ev n base L x = .iface t v) :
    Py P G n base L As (.typeAssert x xt at_ true) (.tuple #[.iface t v, .bool true]) := by
  refine ⟨fun w _ o ho => ?_⟩
  simp [execOp, ho, hx, run_typeAssert_hasB hu h]
theorem Py.asN {xt at_ t : TypeId} {x : Operand} {want : Array (String × TypeId)} {v z : Value} (hu : P.underlying at_ = some (.interface want)) (h : (P.info? t).map (fun i => (lacking want i.methods).isEmpty) = some false) (hz : (P.info? at_).map (·.zero) = some (some z)) (hx : ev n base L x = .iface t v) :
    Py P G n base L As (.typeAssert x xt at_ true) (.tuple #[z, .bool false]) := by
  refine ⟨fun w _ o ho => ?_⟩
  simp [execOp, ho, hx, run_typeAssert_lacksB hu h hz]
theorem Py.mkM {x : Operand} {name : String} {v : Value} (hx : ev n base L x = v) : Py P G n base L As (.makeFunc (.method name) #[x] #[]) (.func (.method name) #[v] #[]) := by
  refine ⟨fun w _ o ho => ?_⟩
  simp [execOp, ho, hx, Instr.makeFunc]
def NilA (P : Program) (t : TypeId) (v : Value) (name : String) : Prop := ∀ w, (nilAhead (P.types.size + Made.depth) t v name).run P w = .ok (some false) w
theorem Py.nilM {x : Operand} {name : String} {t : TypeId} {v : Value} {cs : Array Value} (h : ev n base L x = .func (.method name) #[.iface t v] cs) (hn : NilA P t v name) : Py P G n base L As (.nilCheck x) (.func (.method name) #[.iface t v] cs) := by
  refine ⟨fun w _ o ho => ?_⟩
  simp [execOp, ho, h, hn w]
/-- A call of a function that a variable holds. -/
theorem JO.callV {f : FuncId} {x : Operand} {xs : List Operand} {ats : Array TypeId} {dst : Option Nat} {args : List Value} {Pre : List Asn} {ι : Type} {v : ι → Value} {Post : ι → List Asn} (hx : ev n base L x = .func (.func f) #[] #[]) (ha : Evs n base L xs args) (h : Con P G f args.toArray Pre v Post)
    (q : Picks Pre As r) (k : ∀ i, JO P G ops Q rest n base (into dst (v i) L) D (Post i ++ r)) :
    JO P G ops Q (⟨dst, .call { callee := .value x, args := xs.toArray, argTypes := ats }, ty, pos, aft, none⟩ :: rest) n base L D As := by
  refine ⟨fun w hw => ?_⟩
  refine wpList_plain rfl fun K hK => ?_
  show Oper.upon P _ _ _ _ _
  have e : (execOp (frm n base L D).eval ⟨dst, .call { callee := .value x, args := xs.toArray, argTypes := ats }, ty, pos, aft, none⟩).run P w = .ok (.enter f args.toArray) w := by
    rw [frm_eval]
    simp [execOp, resolve, ha.map, hx, Deferred.ofValue, Go.invoke, run_callFunc h]
  rw [e]
  refine (h.calls hw q).mono ?_
  rintro e w' ⟨i, rfl, hs⟩
  show K _ _
  rw [show (frm n base L D).put _ _ = _ from frm_into dst _]
  exact hK _ _ ((k i).run w' hs)
/-- Bytes as a string. -/
def strB (l : List Nat) : ByteArray := ⟨(l.map UInt8.ofNat).toArray⟩
theorem Py.str {src dst e : TypeId} {x : Operand} {a : Addr} {m c : Nat} {l : List Nat} (hs : P.underlying src = some (.slice e)) (he : P.underlying e = some (.int .u8)) (hd : P.underlying dst = some .string) (hx : ev n base L x = .slice (some a) m c) (hm : l.length = m) (hb : ∀ v ∈ l, v < 256) (hr : Reads G As a (u8s l)) :
    Py P G n base L As (.convert src dst x) (.string (strB l)) := by
  refine ⟨fun w hw o ho => ?_⟩
  subst hm
  have h := run_convert_bytes_back (P := P) w src dst e a c (l.map UInt8.ofNat) hs he hd (fun j hj => by
    have hj' : j < l.length := by simpa using hj
    have := hr w hw j (vu8 l[j]) (by simp [u8s, hj'])
    rw [this]
    have hlt := hb l[j] (List.getElem_mem hj')
    have : (UInt8.ofNat l[j]).toNat = l[j] := by simp [UInt8.toNat_ofNat']; omega
    simp only [List.getElem_map, this])
  simp only [List.length_map] at h
  simp [execOp, ho, hx, h, strB]
theorem Py.strN {src dst e : TypeId} {x : Operand} (hs : P.underlying src = some (.slice e)) (he : P.underlying e = some (.int .u8)) (hd : P.underlying dst = some .string) (hx : ev n base L x = .slice none 0 0) :
    Py P G n base L As (.convert src dst x) (.string (strB [])) := by
  refine ⟨fun w hw o ho => ?_⟩
  simp [execOp, ho, hx, run_convert_bytes_string w src dst e none 0 0 hs he hd, Conv.bytesToString, strB]
  try rfl
theorem str_beq {a b : List Nat} (ha : ∀ v ∈ a, v < 256) (hb : ∀ v ∈ b, v < 256) : ((strB a).toList == (strB b).toList) = decide (a = b) := by
  rw [ByteArray.toList_eq, ByteArray.toList_eq]
  simp only [strB]
  rw [Bool.eq_iff_iff]
  simp only [beq_iff_eq, decide_eq_true_eq]
  constructor
  · intro h
    have h2 := congrArg (List.map UInt8.toNat) h
    simp only [List.map_map] at h2
    have hid : ∀ l : List Nat, (∀ v ∈ l, v < 256) → l.map (UInt8.toNat ∘ UInt8.ofNat) = l := by
      intro l hl
      conv => rhs; rw [← List.map_id l]
      refine List.map_congr_left fun v hv => ?_
      have := hl v hv
      simp [UInt8.toNat_ofNat']; omega
    rwa [hid a ha, hid b hb] at h2
  · rintro rfl; rfl
theorem Py.streq {t yt : TypeId} {x y : Operand} {a b : ByteArray} {c : Bool} (hx : ev n base L x = .string a) (hy : ev n base L y = .string b) (hc : (a.toList == b.toList) = c) : Py P G n base L As (.binOp .eql t x y yt) (.bool c) := by
  refine ⟨fun w _ o ho => ?_⟩
  subst hc
  have hg : (eqGuard .eql t x y (.string a) (.string b)).run P w = .ok () w := by simp [eqGuard]
  simp only [execOp, ho, hx, hy, Sem.run_bind, hg, Result.andThen_ok]
  simp [binOp, Op.stringOp]
theorem Py.eqlSN {t yt e : TypeId} {x : Operand} {a : Option Addr} {l c : Nat} (ht : P.underlying t = some (.slice e)) (hx : ev n base L x = .slice a l c) : Py P G n base L As (.binOp .eql t x (.const (.slice none 0 0)) yt) (.bool a.isNone) := by
  refine ⟨fun w _ o ho => ?_⟩
  have hg : (eqGuard .eql t x (.const (.slice none 0 0)) (.slice a l c) (.slice none 0 0)).run P w = .ok () w := by simp [eqGuard]
  have h1 : (binOp .eql t (.slice a l c) (.slice none 0 0)).run P w = .ok (.bool a.isNone) w := by
    simp only [binOp]; simp [run_equal_slice_nil w t e a l c ht]
  have hy : ev n base L (.const (.slice none 0 0)) = .slice none 0 0 := rfl
  simp only [execOp, ho, hx, hy, Sem.run_bind, hg, Result.andThen_ok, h1, Sem.run_pure]
/-- A nil function. -/
theorem Py.eqlFN {t yt : TypeId} {x : Operand} {f : FuncId} {ps rs : Array TypeId} {vr : Bool} (ht : P.underlying t = some (.func ps rs vr)) (hx : ev n base L x = .func (.func f) #[] #[]) : Py P G n base L As (.binOp .eql t x (.const .nilFunc) yt) (.bool false) := by
  refine ⟨fun w _ o ho => ?_⟩
  have hg : (eqGuard .eql t x (.const .nilFunc) (.func (.func f) #[] #[]) .nilFunc).run P w = .ok () w := by simp [eqGuard]
  have h1 : (binOp .eql t (.func (.func f) #[] #[]) .nilFunc).run P w = .ok (.bool false) w := by
    have h : ∀ d : Nat, (Op.equalIn (d + 1) t (.func (.func f) #[] #[]) .nilFunc).run P w = .ok false w := fun d => by simp [Op.equalIn, run_underlying ht]
    simp only [binOp]; simp [Op.equal, Op.maxDepth, h 9999]
  have hy : ev n base L (.const .nilFunc) = .nilFunc := rfl
  simp only [execOp, ho, hx, hy, Sem.run_bind, hg, Result.andThen_ok, h1, Sem.run_pure]
end
end Go.Proofs.YtfpepghmbeoanaaGreatDoor
end

section
open Go Go.RowKit Go.Lib
namespace Go.Proofs.YtfpepghmbeoanaaGreatDoor
section
variable {P : Program} {G : Gst} {ops : Array Oper} {Q : Exit → Act → World → Prop} {n : Nat} {base : Nat → Value} {L : List (Nat × Value)} {D : List Deferred} {As r r' : List Asn}
  {ty : TypeId} {pos : String} {aft : Array Edge} {rest : List Oper}
theorem Con.introD {f : FuncId} {fn : Func} {c : Code} {args : List Value} {Pre : List Asn} {ι : Type} {v : ι → Value} {Post : ι → List Asn} (hf : P.funcs[f]? = some fn) (hb : fn.body = some c) (hname : (fn.name == "runtime.NumGoroutine") = false)
    (hn : fn.ntmps = n) (hl : args.length ≤ n) (h : ∀ F : Asn, JC P G (bodyPostD P fn fun e w' => ∃ i, e = .returned (v i) ∧ Sat G w' (Post i ++ [F])) c n L0 (inArgs 0 args) [] (Pre ++ [F])) : Con P G f args.toArray Pre v Post := by
  refine ⟨⟨fn, c, hf, hb, hname⟩, fun F w hw => ?_⟩
  refine calls_of_wp_defers hf hb ?_
  have := frm_enter args hl
  simp only [hn, List.size_toArray] at *
  rw [this]
  exact (h F).run w hw
theorem JO.dfr {f : FuncId} {ats : Array TypeId} (k : JO P G ops Q rest n base L (⟨.fn (.func f) #[], #[]⟩ :: D) As) :
    JO P G ops Q (⟨none, .defer { callee := .value (.func f), args := #[], argTypes := ats }, ty, pos, aft, none⟩ :: rest) n base L D As := by
  refine ⟨fun w hw => ?_⟩
  refine wpList_plain rfl fun K hK => ?_
  show Oper.upon P _ _ _ _ _
  have e : (execOp (frm n base L D).eval ⟨none, .defer { callee := .value (.func f), args := #[], argTypes := ats }, ty, pos, aft, none⟩).run P w = .ok (.defer ⟨.fn (.func f) #[], #[]⟩) w := by
    rw [frm_eval]
    simp [execOp, resolve, ev, Deferred.ofValue]
  rw [e]
  exact hK _ _ (k.run w hw)
theorem JX.endD1 {fn : Func} {ι : Type} {v : ι → Value} {Post : ι → List Asn} {F : Asn} {e : Exit} {t : Nat} {f : FuncId} (he : e = .ret ∨ e = .normal) (i : ι) (hr : fn.results = #[.tmp t]) (hv : ev n base L (.tmp t) = v i)
    (hc : ∀ w, (callFunc f #[]).run P w = .ok (.enter f #[]) w) (hD : ∀ w, CallsD P f #[] .returning w fun e u' w' => e = .returned (.tuple #[]) ∧ u' = .returning ∧ w' = w) (q : Picks (Post i ++ [F]) As r') :
    JX G (bodyPostD P fn fun e w' => ∃ i, e = .returned (v i) ∧ Sat G w' (Post i ++ [F])) e n base L [⟨.fn (.func f) #[], #[]⟩] As := by
  refine ⟨fun w hw => ?_⟩
  have h0 : ∃ u, (results fn (frm n base L []).tmps).run P w = .ok u w ∧ u = v i := by
    refine ⟨_, ?_, hv⟩
    have hg := getD_ev (D := []) (n := n) (base := base) (L := L) t
    simp only [results, hr]
    simp [← hg]
  obtain ⟨u, hr, hu⟩ := h0
  subst hu
  have hs : Sat G w (Post i ++ [F]) := (hw.picks q).of fun hs => by
    obtain ⟨h1, h2, hd, e, ha, _⟩ := stars_append.1 hs
    rw [e]; exact stars_up _ (Hp.le_un h1 h2) ha
  have hL : Leaves P fn (frm n base L []).tmps (fun e w' => ∃ i, e = .returned (v i) ∧ Sat G w' (Post i ++ [F])) [⟨.fn (.func f) #[], #[]⟩] .returning w := by
    refine leaves_cons (f := f) (args := #[]) (by simp) (by simp [Go.invoke, hc]) ?_
    refine (hD w).mono ?_
    rintro e u' w'' ⟨rfl, rfl, rfl⟩
    exact ⟨_, hr, i, rfl, hs⟩
  rcases he with rfl | rfl
  · exact hL
  · exact hL
/-- 'append([]T(nil), make([]T, m)...)'. -/
theorem JO.appZ {t tn e : TypeId} {d : Nat} {x y : Operand} {z : Value} {bytes m : Nat} {kn k' : IntKind} {mi : Int} (ht : P.underlying t = some (.slice e)) (htn : P.underlying tn = some (.int kn)) (he : Elm P e z bytes) (hx : ev n base L x = .slice none 0 0) (hy : ev n base L y = .int k' mi) (hm : mi = (m : Int)) (h0 : 0 < m) (hb : m * bytes ≤ 281474976710656) (h63 : m ≤ 281474976710656)
    (k : ∀ b cap, m ≤ cap → cap < 9223372036854775808 → JO P G ops Q rest n base ((d, .slice (some ⟨b, 0, none⟩) m cap) :: L) D (cel b e (Array.replicate cap z) :: As)) :
    JO P G ops Q (⟨some d, .call { callee := .builtin .append, args := #[x, y], argTypes := #[t, tn] }, ty, pos, aft, none⟩ :: rest) n base L D As := by
  subst hm
  refine ⟨fun w hw => ?_⟩
  refine wpList_plain rfl fun K hK => ?_
  show Oper.upon P _ _ _ _ _
  obtain ⟨i, hi, hz, hs, hib⟩ := he.inf
  have hr := Lib.run_append_nil_zeros (P := P) w t tn ty e i z k' kn ht htn hi hz m h0 (by rw [hs]; decide) (by omega) (by rw [hib]; exact hb)
  have hge : m ≤ grownCap w m 0 e := grownCap_ge w m 0 e
  have hle : grownCap w m 0 e ≤ maxLen := grownCap_le_maxLen w m 0 e (by unfold maxLen; omega)
  have er : (execOp (frm n base L D).eval ⟨some d, .call { callee := .builtin .append, args := #[x, y], argTypes := #[t, tn] }, ty, pos, aft, none⟩).run P w = .ok (.value (.slice (some ⟨w.heap.size, 0, none⟩) m (grownCap w m 0 e))) (w.drew.alloc (.cells (Array.replicate (grownCap w m 0 e) z) e)) := by
    rw [frm_eval]
    have hc : (Builtin.zeroCells z.cells m ++ Builtin.zeroCells z.cells (grownCap w m 0 e - m)) = Array.replicate (grownCap w m 0 e) z := by
      rw [cells_one he.one]
      have h1 : ∀ j, Builtin.zeroCells #[z] j = Array.replicate j z := by
        intro j
        apply Array.ext
        · simp [Builtin.zeroCells]
        · intro a h1 h2; simp [Builtin.zeroCells, Nat.mod_one]
      rw [h1, h1]
      rw [Array.replicate_append_replicate]
      congr 1; omega
    rw [hc] at hr
    simp [execOp, resolve, Go.invoke, Go.builtin, hx, hy, hr]
  rw [er]
  show K _ _
  rw [show (frm n base L D).put _ _ = _ from frm_put d _]
  have hA := hw.drew.alloc (.cells (Array.replicate (grownCap w m 0 e) z) e)
  exact hK _ _ ((k _ _ hge (by unfold maxLen at hle; omega)).run _ hA)
/-! ### Rows opened -/
theorem Sat.unrow {w : World} {e : TypeId} {v : Value} {xs : List Value} (hw : Sat G w (Row e v xs :: r)) (hx : xs ≠ []) : ∃ b cap cur, v = .slice (some ⟨b, 0, none⟩) xs.length cap ∧ xs.length ≤ cap ∧ cap < 9223372036854775808 ∧ cur.size = cap ∧ cur.toList.take xs.length = xs ∧ Sat G w (cel b e cur :: r) := by
  obtain ⟨h1, h2, hd, he, hA, hB⟩ := hw.mem
  rcases hA with ⟨_, h⟩ | ⟨b, cap, cur, hv, hc, hlt, hs, ht, hb⟩
  · exact absurd h hx
  · exact ⟨b, cap, cur, hv, hc, hlt, hs, ht, hw.of fun _ => ⟨h1, h2, hd, he, hb, hB⟩⟩
/-- What a row's block holds. -/
structure RowOf (xs : List Value) (cap : Nat) (cur : Array Value) : Prop where
  le : xs.length ≤ cap
  lt : cap < 9223372036854775808
  size : cur.size = cap
  take : cur.toList.take xs.length = xs
theorem RowOf.get {xs : List Value} {cap : Nat} {cur : Array Value} (h : RowOf xs cap cur) {i : Nat} {v : Value} (hv : xs[i]? = some v) : cur[i]? = some v := by
  have h1 : i < xs.length := (List.getElem?_eq_some_iff.1 hv).1
  have h2 := h.take
  have : (cur.toList.take xs.length)[i]? = some v := by rw [h2]; exact hv
  rw [List.getElem?_take_of_lt h1] at this
  simpa using this
theorem JO.unrow {e : TypeId} {v : Value} {xs : List Value} {l : List Oper} (q : Pick (Row e v xs) As r) (hx : xs ≠ []) (k : ∀ b cap cur, v = .slice (some ⟨b, 0, none⟩) xs.length cap → RowOf xs cap cur → JO P G ops Q l n base L D (cel b e cur :: r)) : JO P G ops Q l n base L D As :=
  ⟨fun w hw => by obtain ⟨b, cap, cur, hv, h1, h2, h3, h4, hs⟩ := (hw.pick q).unrow hx; exact (k b cap cur hv ⟨h1, h2, h3, h4⟩).run w hs⟩
theorem JC.unrow {e : TypeId} {v : Value} {xs : List Value} {l : Code} (q : Pick (Row e v xs) As r) (hx : xs ≠ []) (k : ∀ b cap cur, v = .slice (some ⟨b, 0, none⟩) xs.length cap → RowOf xs cap cur → JC P G Q l n base L D (cel b e cur :: r)) : JC P G Q l n base L D As :=
  ⟨fun w hw => by obtain ⟨b, cap, cur, hv, h1, h2, h3, h4, hs⟩ := (hw.pick q).unrow hx; exact (k b cap cur hv ⟨h1, h2, h3, h4⟩).run w hs⟩
theorem JX.unrow {e : TypeId} {v : Value} {xs : List Value} {l : Exit} (q : Pick (Row e v xs) As r) (hx : xs ≠ []) (k : ∀ b cap cur, v = .slice (some ⟨b, 0, none⟩) xs.length cap → RowOf xs cap cur → JX G Q l n base L D (cel b e cur :: r)) : JX G Q l n base L D As :=
  ⟨fun w hw => by obtain ⟨b, cap, cur, hv, h1, h2, h3, h4, hs⟩ := (hw.pick q).unrow hx; exact (k b cap cur hv ⟨h1, h2, h3, h4⟩).run w hs⟩
theorem row_mk {b e m cap : Nat} {cur : Array Value} {xs : List Value} (hr : RowOf xs cap cur) (hl : xs.length = m) {hp : Hp} (hc : cel b e cur hp) : Row e (.slice (some ⟨b, 0, none⟩) m cap) xs hp := by
  subst hl
  exact Or.inr ⟨b, cap, cur, rfl, hr.le, hr.lt, hr.size, hr.take, hc⟩
theorem Sat.torow {w : World} {b e m cap : Nat} {cur : Array Value} {xs : List Value} (hw : Sat G w (cel b e cur :: r)) (hr : RowOf xs cap cur) (hl : xs.length = m) : Sat G w (Row e (.slice (some ⟨b, 0, none⟩) m cap) xs :: r) :=
  hw.of fun hs => by obtain ⟨h1, h2, hd, he, ha, hb⟩ := hs; exact ⟨h1, h2, hd, he, row_mk hr hl ha, hb⟩
theorem JO.torow {b e m cap : Nat} {cur : Array Value} {xs : List Value} {l : List Oper} (q : Pick (cel b e cur) As r) (hr : RowOf xs cap cur) (hl : xs.length = m) (k : JO P G ops Q l n base L D (Row e (.slice (some ⟨b, 0, none⟩) m cap) xs :: r)) : JO P G ops Q l n base L D As :=
  ⟨fun w hw => k.run w ((hw.pick q).torow hr hl)⟩
theorem JC.torow {b e m cap : Nat} {cur : Array Value} {xs : List Value} {l : Code} (q : Pick (cel b e cur) As r) (hr : RowOf xs cap cur) (hl : xs.length = m) (k : JC P G Q l n base L D (Row e (.slice (some ⟨b, 0, none⟩) m cap) xs :: r)) : JC P G Q l n base L D As :=
  ⟨fun w hw => k.run w ((hw.pick q).torow hr hl)⟩
theorem JX.torow {b e m cap : Nat} {cur : Array Value} {xs : List Value} {l : Exit} (q : Pick (cel b e cur) As r) (hr : RowOf xs cap cur) (hl : xs.length = m) (k : JX G Q l n base L D (Row e (.slice (some ⟨b, 0, none⟩) m cap) xs :: r)) : JX G Q l n base L D As :=
  ⟨fun w hw => k.run w ((hw.pick q).torow hr hl)⟩
/-- What is behind the row's end may be anything. -/
theorem RowOf.set {xs : List Value} {cap i : Nat} {cur : Array Value} {v : Value} (h : RowOf xs cap cur) (hi : i < xs.length) : RowOf (xs.set i v) cap (cur.setIfInBounds i v) := by
  refine ⟨by simpa using h.le, h.lt, by simp [h.size], ?_⟩
  rw [List.length_set, Array.toList_setIfInBounds, List.take_set, h.take]
theorem RowOf.set_end {xs : List Value} {cap l : Nat} {cur : Array Value} {v : Value} (h : RowOf xs cap cur) (hl : xs.length = l) (hi : l < cap) : RowOf (xs ++ [v]) cap (cur.setIfInBounds l v) := by
  subst hl
  refine ⟨by simp; omega, h.lt, by simp [h.size], ?_⟩
  rw [List.length_append, List.length_singleton, Array.toList_setIfInBounds, List.take_set, List.take_add_one, h.take]
  have hs : xs.length < cur.toList.length := by rw [Array.length_toList (xs := cur), h.size]; exact hi
  rw [List.getElem?_eq_getElem hs]
  simp
theorem RowOf.grow {xs : List Value} {cap : Nat} {cur : Array Value} {v : Value} (h : RowOf xs cap cur) (hl : xs.length < cap) (hv : cur[xs.length]? = some v) : RowOf (xs ++ [v]) cap cur := by
  refine ⟨by simp; omega, h.lt, h.size, ?_⟩
  rw [List.length_append, List.length_singleton, List.take_add_one, h.take]
  congr 1
  rw [← Array.getElem?_toList] at hv
  rw [hv]; rfl
end
theorem catch_idle (w : World) : CallsD Tryz.prog 96 #[] .returning w fun e u' w' => e = .returned (.tuple #[]) ∧ u' = .returning ∧ w' = w := by
  have hnn : ∀ w, (binOp .neq 20 .nilIface .nilIface).run Tryz.prog w = .ok (.bool false) w := fun w => Go.Lib.run_neq_nil_nil w Tryz.underlying20
  refine callsD_of_wpS Tryz.func96 rfl fun c₀ cs hu => ?_
  apply wpS_seq
  apply wpS_region
  simp [wpOpsS, go_sem, recoverD, hu, hnn, Tryz.ntmps96, Exit.thenS]
  refine wpS_cond (t := false) (by simp [Act.eval, Array.replicate]) ?_
  simp only [Bool.false_eq_true, if_false]
  refine wpS_of_wp (wp_skip ?_)
  cases c₀
  simp_all [bodyPostS, results, Tryz.results96]
end Go.Proofs.YtfpepghmbeoanaaGreatDoor
end

section
open Go Go.RowKit
namespace Go.Proofs.YtfpepghmbeoanaaGreatDoor
section
variable {P : Program} {G : Gst} {n : Nat} {base : Nat → Value} {L : List (Nat × Value)} {As r : List Asn}
theorem Py.eqlNH {xt yt t : TypeId} {x y : Operand} {u : Value} {ms : Array (String × TypeId)} (ht : P.underlying xt = some (.interface ms)) (hx : ev n base L x = .nilIface) (hy : ev n base L y = .iface t u) : Py P G n base L As (.binOp .eql xt x y yt) (.bool false) := by
  refine ⟨fun w _ o ho => ?_⟩
  have hg : (eqGuard .eql xt x y .nilIface (.iface t u)).run P w = .ok () w := by simp [eqGuard]
  simp only [execOp, ho, hx, hy, Sem.run_bind, hg, Result.andThen_ok, (run_eqx ht (.inr (.inr ⟨t, u, rfl, rfl, rfl⟩)) w).1, Sem.run_pure]
theorem Py.neqNH {xt yt t : TypeId} {x y : Operand} {u : Value} {ms : Array (String × TypeId)} (ht : P.underlying xt = some (.interface ms)) (hx : ev n base L x = .nilIface) (hy : ev n base L y = .iface t u) : Py P G n base L As (.binOp .neq xt x y yt) (.bool true) := by
  refine ⟨fun w _ o ho => ?_⟩
  have hg : (eqGuard .neq xt x y .nilIface (.iface t u)).run P w = .ok () w := by simp [eqGuard]
  simp only [execOp, ho, hx, hy, Sem.run_bind, hg, Result.andThen_ok, (run_eqx ht (.inr (.inr ⟨t, u, rfl, rfl, rfl⟩)) w).2, Sem.run_pure]
  rfl
end
/-- Two that stand together. -/
def Two (A B : Asn) : Asn := Ex fun _ : Unit => [A, B]
theorem two_eq (A B : Asn) : Two A B = Ex fun _ : Unit => [A, B] := rfl
theorem mth88R (p : Value) : Mth Tryz.prog 88 (.agg #[p]) "Read" 139 p := fun w => by kernel_rfl
theorem mth88B (p : Value) : Mth Tryz.prog 88 (.agg #[p]) "ReadByte" 140 p := fun w => by kernel_rfl
theorem mth106R (p : Value) : Mth Tryz.prog 106 p "Read" 143 p := fun w => by kernel_rfl
theorem mth171R (p : Value) : Mth Tryz.prog 171 p "Read" 223 p := fun w => by kernel_rfl
theorem mth171B (p : Value) : Mth Tryz.prog 171 p "ReadByte" 224 p := fun w => by kernel_rfl
theorem mth210R (p : Value) : Mth Tryz.prog 210 p "Read" 238 p := fun w => by kernel_rfl
theorem mth109R (p : Value) : Mth Tryz.prog 109 p "Read" 148 p := fun w => by kernel_rfl
theorem mth115R (p : Value) : Mth Tryz.prog 115 p "Read" 190 p := fun w => by kernel_rfl
theorem nil171 (a : Addr) : NilA Tryz.prog 171 (.pointer (some a)) "Read" := fun w => by kernel_rfl
theorem br171 : (Tryz.prog.info? 171).map (fun i => (lacking #[("ReadByte", 290)] i.methods).isEmpty) = some true := by kernel_rfl
theorem br88 : (Tryz.prog.info? 88).map (fun i => (lacking #[("ReadByte", 290)] i.methods).isEmpty) = some true := by kernel_rfl
end Go.Proofs.YtfpepghmbeoanaaGreatDoor
end

section
open Go Go.RowKit
namespace Go.Proofs.YtfpepghmbeoanaaGreatDoor
open Go.Extern.Stop Go.Stop Go.Extern
theorem tz_typeOf (v : Value) (w : World) : (Extern.ReflectliteType.typeOf #[.iface 215 v]).run Tryz.prog w = .ok (.iface 156 (.agg #[.pointer (some ⟨33, 215, none⟩)])) w := by kernel_rfl
theorem tz_cmp (w : World) : ((Extern.ReflectliteType.method fun t => do Extern.Rtype.noPackHeld "Comparable" t; (fun a => Value.bool a.comparable) <$> typeInfo t) #[.agg #[.pointer (some ⟨33, 215, none⟩)]]).run Tryz.prog w = .ok (.bool true) w := by kernel_rfl
theorem tz_mth (v : Value) (w : World) : (Go.method (Tryz.prog.types.size + Made.depth) 156 v "Comparable").run Tryz.prog w = .ok (214, v) w := by kernel_rfl
theorem tz_comp : (Tryz.prog.info? 215).map (·.comparable) = some true := by kernel_rfl
theorem tz_size : (Tryz.prog.info? 217).map (·.size) = some 1 := by kernel_rfl
theorem tz_depth : Tryz.prog.types.size + Made.depth = 499 := by kernel_rfl
set_option maxRecDepth 100000 in
theorem is_same (a : Addr) (w : World) :
    Calls Tryz.prog 36 #[.iface 215 (.pointer (some a)), .iface 215 (.pointer (some a))] w fun e w' => e = .returned (.bool true) ∧ w' = w := by
  obtain ⟨i, hi, hcmp⟩ := Option.map_eq_some_iff.1 tz_comp
  obtain ⟨j, hj, hjs⟩ := Option.map_eq_some_iff.1 tz_size
  have h8 := @run_callFunc_extern Tryz.prog 47 _ Extern.ReflectliteType.typeOf Tryz.func47 (by kernel_rfl) (by kernel_rfl) (by kernel_rfl) (by kernel_rfl)
  have h32 := @run_callFunc_extern Tryz.prog 214 _ (Extern.ReflectliteType.method fun t => do Extern.Rtype.noPackHeld "Comparable" t; pure (.bool (← typeInfo t).comparable)) Tryz.func214 (by kernel_rfl) (by kernel_rfl) (by kernel_rfl) (by kernel_rfl)
  have tT := tz_typeOf
  have cT := tz_cmp
  have mR := tz_mth
  rw [tz_depth] at mR
  have heq := run_eql_iface_ptr_same (P := Tryz.prog) w a Tryz.underlying70 Tryz.underlying215 hi hcmp hj
  go_enter Tryz.func36, Tryz.ntmps36
  go_wp2
  refine wp_loop_rounds 1 ?_
  rw [rounds_succ]
  go_wp2
  go_ret
  exact ⟨rfl, rfl⟩
theorem is_con (G : Gst) (a : Addr) : Con Tryz.prog G 36 #[.iface 215 (.pointer (some a)), .iface 215 (.pointer (some a))] [] (fun _ : Unit => .bool true) (fun _ => []) := by
  refine ⟨⟨_, _, Tryz.func36, rfl, by kernel_rfl⟩, fun F w hw => ?_⟩
  refine (is_same a w).mono ?_
  rintro e w' ⟨rfl, rfl⟩
  exact ⟨(), rfl, hw⟩
end Go.Proofs.YtfpepghmbeoanaaGreatDoor
end

section
open Go Go.RowKit
namespace Go.Proofs.YtfpepghmbeoanaaGreatDoor
theorem xpkE {p : Prop} (h : p := by (try dsimp only [List.cons_append, List.nil_append]); exact xpicks) : p := h
/-- A row of bytes that is only read. -/
def RdOk (cs : Array Value) (ob : Nat) (bs : List Nat) : Prop := ∀ i, i < bs.length → cs[ob + i]? = some (vu8 (bs.getD i 0)) ∧ bs.getD i 0 < 256
/-- These bytes of a list. -/
def piece (all : List Nat) (i m : Nat) : List Value := (List.range m).map fun j => vu8 (all.getD (i + j) 0)
theorem piece_get {all : List Nat} {i m j : Nat} {v : Value} (h : (piece all i m)[j]? = some v) : j < m ∧ v = vu8 (all.getD (i + j) 0) := by
  unfold piece at h
  rw [List.getElem?_map] at h
  by_cases hj : j < m
  · rw [List.getElem?_range hj] at h
    exact ⟨hj, (Option.some.inj h).symm⟩
  · rw [List.getElem?_eq_none (by simp; omega)] at h; simp at h
theorem piece_len (all : List Nat) (i m : Nat) : (piece all i m).length = m := by simp [piece]
theorem piece_one (all : List Nat) (i m : Nat) : ∀ v ∈ piece all i m, v.oneCell' = true := by simp [piece, Value.oneCell']
/-- These cells stand in the place of those from there on. -/
def splice (ps : Array Value) (o : Nat) (news : List Value) : Array Value := (ps.toList.take o ++ news ++ ps.toList.drop (o + news.length)).toArray
/-- Over slices that are all of it. -/
theorem splice_size {ps : Array Value} {o : Nat} {news : List Value} (h : o + news.length ≤ ps.size) : (splice ps o news).size = ps.size := by
  unfold splice
  simp only [List.size_toArray, List.length_append, List.length_take, List.length_drop, Array.length_toList]
  omega
/-- io.EOF. -/
abbrev eofV (ea : Addr) : Value := .iface 215 (.pointer (some ea))
abbrev EofA (ea : Addr) (eT : TypeId) (ef : Nat × Nat) : Asn := blk 1 (.cells #[eofV ea] eT ef)
theorem or_hi {j a x : Nat} (h : x < 2 ^ j) : a * 2 ^ j ||| x = a * 2 ^ j + x := by
  have := Nat.shiftLeft_add_eq_or_of_lt (b := x) (i := j) h a
  rw [Nat.shiftLeft_eq] at this
  exact this.symm
theorem or_int {p q : Int} {x y z : Nat} (hp : p = x) (hq : q = y) (h : x ||| y = z) : ((p.toNat ||| q.toNat : Nat) : Int) = (z : Int) := by
  subst hp hq h; rfl
theorem or_at {k a b x y : Nat} (h : y < 2 ^ k) (hx : x = a * 2 ^ k) : x ||| y = x + y := by
  subst hx; exact or_hi h
section
variable {P : Program} {G : Gst} {ops : Array Oper} {Q : Exit → Act → World → Prop} {n : Nat} {base : Nat → Value} {L : List (Nat × Value)} {D : List Deferred} {As r r' : List Asn}
  {ty : TypeId} {pos : String} {aft : Array Edge} {rest : List Oper}
theorem row_of {b e m : Nat} {cur : Array Value} {xs : List Value} (h : cur.toList = xs) (hl : xs.length = m) (hn : m < 9223372036854775808) {hp : Hp} (hc : cel b e cur hp) : Row e (.slice (some ⟨b, 0, none⟩) m m) xs hp := by
  subst hl h
  refine Or.inr ⟨b, cur.toList.length, cur, rfl, Nat.le_refl _, hn, by simp, List.take_of_length_le (Nat.le_refl _), hc⟩
theorem JO.toRow {b e m : Nat} {cur : Array Value} {xs : List Value} {l : List Oper} (q : Pick (cel b e cur) As r) (h : cur.toList = xs) (hl : xs.length = m) (hn : m < 9223372036854775808) (k : JO P G ops Q l n base L D (Row e (.slice (some ⟨b, 0, none⟩) m m) xs :: r)) : JO P G ops Q l n base L D As :=
  ⟨fun w hw => k.run w ((hw.pick q).of fun hs => by
    obtain ⟨h1, h2, hd, e, ha, hb⟩ := hs
    exact ⟨h1, h2, hd, e, row_of h hl hn ha, hb⟩)⟩
theorem JC.toRow {b e m : Nat} {cur : Array Value} {xs : List Value} {l : Code} (q : Pick (cel b e cur) As r) (h : cur.toList = xs) (hl : xs.length = m) (hn : m < 9223372036854775808) (k : JC P G Q l n base L D (Row e (.slice (some ⟨b, 0, none⟩) m m) xs :: r)) : JC P G Q l n base L D As :=
  ⟨fun w hw => k.run w ((hw.pick q).of fun hs => by
    obtain ⟨h1, h2, hd, e, ha, hb⟩ := hs
    exact ⟨h1, h2, hd, e, row_of h hl hn ha, hb⟩)⟩
end
theorem RdOk.ext {cs : Array Value} {o m : Nat} {bs : List Nat} (hb : RdOk cs o bs) (hm : bs.length = m) (h1 : o + m ≤ cs.size) : (cs.extract o (o + m)).toList = u8s bs := by
  subst hm
  apply List.ext_getElem?
  intro i
  rw [Array.getElem?_toList, Array.getElem?_extract]
  by_cases hi : i < bs.length
  · rw [if_pos (by omega), (hb i hi).1]
    simp [u8s, hi]
  · rw [if_neg (by omega)]
    simp [u8s, hi]
theorem RdOk.lt {cs : Array Value} {o : Nat} {bs : List Nat} (hb : RdOk cs o bs) : ∀ v ∈ bs, v < 256 := by
  intro v hv
  obtain ⟨i, hi, rfl⟩ := List.getElem_of_mem hv
  have := (hb i hi).2
  simpa [List.getD_eq_getElem?_getD, hi] using this
theorem RowOf.rd {xs : List Nat} {cap : Nat} {cur : Array Value} (h : RowOf (u8s xs) cap cur) (hx : ∀ v ∈ xs, v < 256) : RdOk cur 0 xs := by
  intro i hi
  have h1 : (u8s xs)[i]? = some (vu8 (xs.getD i 0)) := by simp [u8s, hi]
  refine ⟨by rw [Nat.zero_add]; exact h.get h1, ?_⟩
  rw [List.getD_eq_getElem?_getD, List.getElem?_eq_getElem hi]
  exact hx _ (List.getElem_mem hi)
theorem newRd_con (G : Gst) (v : Value) (h : v.oneCell' = true) : Con Tryz.prog G 35 #[v] [] (fun r : Nat => .pointer (some ⟨r, 0, none⟩)) (fun r => [cel r 96 #[v, .int .i64 0, .int .i64 (-1)]]) := by
  refine Con.intro Tryz.func35 rfl (by kernel_rfl) Tryz.ntmps35 (Nat.le_of_ble_eq_true rfl) ?_
  intro F
  show JC _ _ _ _ _ _ [(0, _)] _ [_]
  refine sR ?_
  refine oC ?_
  refine nC (sR ?_)
  refine oM ?_
  refine JO.py (Py.build bld96 (Pts.cons xe (Pts.cons ev_const (Pts.cons ev_const Pts.nil))) xfl) ?_
  refine JO.boxA xe ?_; intro b5
  refine oA ?_
  refine nC (JC.ret ?_)
  refine JX.end1 (Or.inl rfl) (b5) Tryz.results35 ((xe).trans (by first | exact xval | (dsimp only; exact xval))) xpkE
/-- A reader of bytes. -/
abbrev BrA (r : Nat) (v : Value) (i : Nat) (p : Int) : Asn := cel r 96 #[v, .int .i64 (i : Int), .int .i64 p]
/-- A buffer's cells. -/
abbrev BufA (bf : Nat) (v : Value) (off : Nat) (lr : Int) : Asn := cel bf 131 #[v, .int .i64 (off : Int), .int .i8 lr]
theorem bufLen_con (G : Gst) (bf : Nat) (a : Option Addr) (l c off : Nat) (lr : Int) (h : off ≤ l) (hl : l ≤ 1000000) : Con Tryz.prog G 75 #[.pointer (some ⟨bf, 0, none⟩)] [BufA bf (.slice a l c) off lr] (fun _ : Unit => .int .i64 ((l - off : Nat) : Int)) (fun _ => [BufA bf (.slice a l c) off lr]) := by
  refine Con.intro Tryz.func75 rfl (by kernel_rfl) Tryz.ntmps75 (Nat.le_of_ble_eq_true rfl) ?_
  intro F
  show JC _ _ _ _ _ _ [(0, _)] _ [_, _]
  refine sR ?_
  refine oC ?_
  refine nC (JC.seq ?_)
  refine JC.regionD mixed (by kernel_rfl) ?_
  refine JD.py (Py.move xe) ?_
  refine JD.py (Py.nil xe) ?_
  refine JD.py (Py.fld fld131_0 xe xoff) ?_
  refine JD.py (Py.load scal22 xe xpick xrow) ?_
  refine JD.py (Py.lenS Tryz.underlying22 xe) ?_
  refine JD.py (Py.move xe) ?_
  refine JD.py (Py.nil xe) ?_
  refine JD.py (Py.fld fld131_1 xe xoff) ?_
  refine JD.py (Py.load scal3 xe xpick xrow) ?_
  refine JD.py (Py.sub xe xe wI) ?_
  refine JD.py (Py.assign xe) ?_
  refine JD.nilN (JX.code (JC.ret ?_))
  refine JX.end1 (Or.inl rfl) (()) Tryz.results75 ((xe).trans (by first | exact xval | (dsimp only; exact xval))) xpkE
theorem RdOk.piece {cs : Array Value} {o f m : Nat} {bs : List Nat} (hb : RdOk cs o bs) (h : f + m ≤ bs.length) : ∀ j v, (piece bs f m)[j]? = some v → cs[o + f + j]? = some v := by
  intro j v hv
  obtain ⟨hj, rfl⟩ := piece_get hv
  rw [Nat.add_assoc]
  exact (hb (f + j) (by omega)).1
theorem bbEmptyF_con (G : Gst) (bf : Nat) (a : Option Addr) (l c off : Nat) (lr : Int) (h : off < l) : Con Tryz.prog G 146 #[.pointer (some ⟨bf, 0, none⟩)] [BufA bf (.slice a l c) off lr] (fun _ : Unit => .bool false) (fun _ => [BufA bf (.slice a l c) off lr]) := by
  refine Con.intro Tryz.func146 rfl (by kernel_rfl) Tryz.ntmps146 (Nat.le_of_ble_eq_true rfl) ?_
  intro F
  show JC _ _ _ _ _ _ [(0, _)] _ [_, _]
  refine sR ?_
  refine oC ?_
  refine nC (JC.seq ?_)
  refine JC.regionD mixed (by kernel_rfl) ?_
  refine JD.py (Py.move xe) ?_
  refine JD.py (Py.nil xe) ?_
  refine JD.py (Py.fld fld131_0 xe xoff) ?_
  refine JD.py (Py.load scal22 xe xpick xrow) ?_
  refine JD.py (Py.lenS Tryz.underlying22 xe) ?_
  refine JD.py (Py.move xe) ?_
  refine JD.py (Py.nil xe) ?_
  refine JD.py (Py.fld fld131_1 xe xoff) ?_
  refine JD.py (Py.load scal3 xe xpick xrow) ?_
  first | refine JD.py (Py.dec (Py.leq xe xe) (by omega)) ?_ | refine JD.py (Py.undec (Py.leq xe xe) (by omega)) ?_ | refine JD.py (Py.leq xe xe) ?_
  refine JD.py (Py.assign xe) ?_
  refine JD.nilN (JX.code (JC.ret ?_))
  refine JX.end1 (Or.inl rfl) (()) Tryz.results146 ((xe).trans (by first | exact xval | (dsimp only; exact xval))) xpkE
set_option maxRecDepth 100000 in
theorem rdRead_con (G : Gst) (r b o m c i pb po pl pc : Nat) (p : Int) (cs ps : Array Value) (Tb : TypeId) (fr : Nat × Nat) (xs : List Nat) (n : Nat) (hb : RdOk cs o xs) (hl : xs.length = m) (hi : i < m) (hmc : m ≤ c) (hc : m ≤ 1000000) (hpl : 1 ≤ pl ∧ pl ≤ pc) (hp : po + pl ≤ ps.size) (hn : min pl (m - i) = n) :
    Con Tryz.prog G 139 #[.pointer (some ⟨r, 0, none⟩), .slice (some ⟨pb, po, none⟩) pl pc] [BrA r (.slice (some ⟨b, o, none⟩) m c) i p, blk b (.cells cs Tb fr), cel pb 5 ps] (fun _ : Unit => .tuple #[.int .i64 (n : Int), .nilIface])
      (fun _ => [BrA r (.slice (some ⟨b, o, none⟩) m c) (i + n) (-1), blk b (.cells cs Tb fr), cel pb 5 (splice ps po (piece xs i n))]) := by
  have hr := hb.piece (f := i) (m := n) (by omega)
  refine Con.intro Tryz.func139 rfl (by kernel_rfl) Tryz.ntmps139 (Nat.le_of_ble_eq_true rfl) ?_
  intro F
  show JC _ _ _ _ _ _ [(0, _), (1, _)] _ [_, _, _, _]
  refine sR ?_
  refine oC ?_
  refine oC ?_
  refine nC (JC.seq (JC.seq ?_))
  refine JC.regionD mixed (by kernel_rfl) ?_
  refine JD.py (Py.move xe) ?_
  refine JD.py (Py.nil xe) ?_
  refine JD.py (Py.fld fld96_1 xe xoff) ?_
  refine JD.py (Py.load scal2 xe xpick xrow) ?_
  refine JD.py (Py.move xe) ?_
  refine JD.py (Py.nil xe) ?_
  refine JD.py (Py.fld fld96_0 xe xoff) ?_
  refine JD.py (Py.load scal22 xe xpick xrow) ?_
  refine JD.py (Py.lenS Tryz.underlying22 xe) ?_
  first | refine JD.py (Py.dec (Py.geq xe xe) (by omega)) ?_ | refine JD.py (Py.undec (Py.geq xe xe) (by omega)) ?_ | refine JD.py (Py.geq xe xe) ?_
  refine JD.nilN (JX.code ?_)
  refine cF ?_
  refine JC.skip (JX.code (sR ?_))
  refine oM ?_
  refine JO.py (Py.nil xe) ?_
  refine JO.py (Py.fld fld96_2 xe xoff) ?_
  refine JO.store siz3 xe ev_const (by first | rfl | assumption) xpick xsize xnorm ?_
  refine nC (JC.seq ?_)
  refine JC.regionM [(0, true), (1, true), (2, true), (3, true), (4, true), (5, true), (6, true), (7, true), (8, true), (9, true), (10, false), (11, true)] mixed (by kernel_rfl) ?_
  refine JM.py ao ⟨fun _ => Py.move xe⟩ ?_
  refine JM.py ao ⟨fun _ => Py.move xe⟩ ?_
  refine JM.py ao ⟨fun _ => Py.nil xe⟩ ?_
  refine JM.py ao ⟨fun _ => Py.fld fld96_0 xe xoff⟩ ?_
  refine JM.ld ao scal22 xe xpick xrow ?_
  refine JM.py ao ⟨fun _ => Py.move xe⟩ ?_
  refine JM.py ao ⟨fun _ => Py.nil xe⟩ ?_
  refine JM.py ao ⟨fun _ => Py.fld fld96_1 xe xoff⟩ ?_
  refine JM.ld ao scal2 xe xpick xrow ?_
  refine JM.py ao ⟨fun _ => Py.slc (l := i) (h := m) (p := o + i) (q := m - i) (c := c - i) Tryz.underlying22 siz5 xe (Bd.some xe (by omega)) Bd.none (by omega) (by omega) (by omega) (by omega) (by omega) (by omega)⟩ ?_
  refine JM.eff ao ?_
  refine JO.copy (news := piece xs i n) (cs' := splice ps po (piece xs i n)) Tryz.underlying22 info5 xe xe (piece_len xs i n) (by omega) xpick (Reads.cel (o := o + i) xpick hr) (by omega) (piece_one xs i n) (by unfold splice; rw [piece_len]) ?_
  refine JO.nil ?_
  refine JX.mix (Kept.drop (Forced.trans (q := 9) (Forced.step (by kernel_rfl)) (Forced.step (by kernel_rfl))) (Kept.drop (Forced.trans (q := 9) (Forced.step (by kernel_rfl)) (Forced.step (by kernel_rfl))) Kept.nil)) ?_
  refine JM.py ao ⟨fun _ => Py.assign xe⟩ ?_
  refine JM.nil (JX.code (sR ?_))
  refine oM ?_
  refine JO.py (Py.nil xe) ?_
  refine JO.py (Py.fld fld96_1 xe xoff) ?_
  refine JO.py (Py.load scal2 xe xpick xrow) ?_
  refine oM ?_
  refine JO.py (Py.add xe xe wI) ?_
  refine JO.py (Py.nil xe) ?_
  refine JO.py (Py.fld fld96_1 xe xoff) ?_
  refine JO.store siz2 xe xe (by first | rfl | assumption) xpick xsize xnorm ?_
  refine nC (JC.ret ?_)
  refine JX.end2 (Or.inl rfl) (()) Tryz.results139 (tup2 ((xe).trans (by first | exact xval | (dsimp only; exact xval))) ((xe).trans (by first | exact xval | (dsimp only; exact xval)))) xpkE
theorem rdReadE_con (G : Gst) (r b o m c i pb po pl pc : Nat) (p : Int) (cs ps : Array Value) (hi : m ≤ i) (ea : Addr) (eT : TypeId) (ef : Nat × Nat) :
    Con Tryz.prog G 139 #[.pointer (some ⟨r, 0, none⟩), .slice (some ⟨pb, po, none⟩) pl pc] [BrA r (.slice (some ⟨b, o, none⟩) m c) i p, EofA ea eT ef] (fun _ : Unit => .tuple #[.int .i64 0, eofV ea])
      (fun _ => [BrA r (.slice (some ⟨b, o, none⟩) m c) i p, EofA ea eT ef]) := by
  refine Con.intro Tryz.func139 rfl (by kernel_rfl) Tryz.ntmps139 (Nat.le_of_ble_eq_true rfl) ?_
  intro F
  show JC _ _ _ _ _ _ [(0, _), (1, _)] _ [_, _, _]
  refine sR ?_
  refine oC ?_
  refine oC ?_
  refine nC (JC.seq (JC.seq ?_))
  refine JC.regionD mixed (by kernel_rfl) ?_
  refine JD.py (Py.move xe) ?_
  refine JD.py (Py.nil xe) ?_
  refine JD.py (Py.fld fld96_1 xe xoff) ?_
  refine JD.py (Py.load scal2 xe xpick xrow) ?_
  refine JD.py (Py.move xe) ?_
  refine JD.py (Py.nil xe) ?_
  refine JD.py (Py.fld fld96_0 xe xoff) ?_
  refine JD.py (Py.load scal22 xe xpick xrow) ?_
  refine JD.py (Py.lenS Tryz.underlying22 xe) ?_
  first | refine JD.py (Py.dec (Py.geq xe xe) (by omega)) ?_ | refine JD.py (Py.undec (Py.geq xe xe) (by omega)) ?_ | refine JD.py (Py.geq xe xe) ?_
  refine JD.nilN (JX.code ?_)
  refine cT ?_
  refine JC.seq ?_
  refine JC.regionD mixed (by kernel_rfl) ?_
  refine JD.py (Py.load scal70 ev_glob xpick xrow) ?_
  refine JD.py (Py.assign ev_const) ?_
  refine JD.py (Py.assign xe) ?_
  refine JD.nilN (JX.code (JC.ret (JX.ret ?_)))
  refine JX.end2 (Or.inl rfl) (()) Tryz.results139 (tup2 ((xe).trans (by first | exact xval | (dsimp only; exact xval))) ((xe).trans (by first | exact xval | (dsimp only; exact xval)))) xpkE
theorem piece_eq {all : List Nat} {i m : Nat} (h : i + m ≤ all.length) : piece all i m = u8s ((all.drop i).take m) := by
  apply List.ext_getElem?
  intro j
  by_cases hj : j < m
  · have : i + j < all.length := by omega
    simp [piece, u8s, hj, List.getElem?_take, List.getElem?_drop, this]
  · simp [piece, u8s, hj]; omega
section
variable {P : Program} {G : Gst} {ops : Array Oper} {Q : Exit → Act → World → Prop} {n : Nat} {base : Nat → Value} {L : List (Nat × Value)} {D : List Deferred} {As r r' : List Asn}
  {ty : TypeId} {pos : String} {aft : Array Edge} {rest : List Oper}
theorem Py.nilI {x : Operand} {t : TypeId} {v : Value} (h : ev n base L x = .iface t v) : Py P G n base L As (.nilCheck x) (.iface t v) := by
  refine ⟨fun w _ o ho => ?_⟩; simp [execOp, ho, h]
end
theorem mth285R (p : Value) : Mth Tryz.prog 285 p "Read" 246 p := fun w => by kernel_rfl
theorem limReader_con (G : Gst) (R : Value) (N : Int) (hR : R.oneCell' = true) : Con Tryz.prog G 85 #[R, .int .i64 N] [] (fun l : Nat => .iface 285 (.pointer (some ⟨l, 0, none⟩))) (fun l => [cel l 282 #[R, .int .i64 N]]) := by
  refine Con.intro Tryz.func85 rfl (by kernel_rfl) Tryz.ntmps85 (Nat.le_of_ble_eq_true rfl) ?_
  intro F
  show JC _ _ _ _ _ _ [(0, _), (1, _)] _ [_]
  refine sR ?_
  refine oC ?_
  refine nC (sR ?_)
  refine oM ?_
  refine oM ?_
  refine JO.py (Py.build bld282 (Pts.cons xe (Pts.cons xe Pts.nil)) xfl) ?_
  refine JO.boxA xe ?_; intro b8
  refine JO.py (Py.mki mki285 xe) ?_
  refine oA ?_
  refine nC (JC.ret ?_)
  refine JX.end1 (Or.inl rfl) (b8) Tryz.results85 ((xe).trans (by first | exact xval | (dsimp only; exact xval))) xpkE
section
variable {P : Program} {G : Gst} {ops : Array Oper} {Q : Exit → Act → World → Prop} {n : Nat} {base : Nat → Value} {L : List (Nat × Value)} {D : List Deferred} {As r r' : List Asn}
  {ty : TypeId} {pos : String} {aft : Array Edge} {rest : List Oper}
theorem Py.slcU {t e : TypeId} {x : Operand} {sz b o len cap l h : Nat} {lo hi : Option Operand} (ht : P.underlying t = some (.slice e)) (hz : Siz P e sz) (hx : ev n base L x = .slice (some ⟨b, o, none⟩) len cap) (hlo : Bd n base L 0 lo l) (hhi : Bd n base L len hi h) (hl : l ≤ h) (hh : h ≤ cap) :
    Py P G n base L As (.slice t x lo hi none) (.slice (some ⟨b, if cap = l then o else o + l * sz, none⟩) (h - l) (cap - l)) := by
  refine ⟨fun w _ o' ho => ?_⟩
  have := run_slc (P := P) (w := w) ht hz hlo hhi hl hh (b := b) (o := o)
  simp [execOp, ho, hx, this]
theorem Py.str0 {src dst e : TypeId} {x : Operand} {a : Option Addr} {c : Nat} (hs : P.underlying src = some (.slice e)) (he : P.underlying e = some (.int .u8)) (hd : P.underlying dst = some .string) (hx : ev n base L x = .slice a 0 c) (h : a = none → c = 0) :
    Py P G n base L As (.convert src dst x) (.string (strB [])) := by
  cases a with
  | none => obtain rfl := h rfl; exact Py.strN hs he hd hx
  | some a => exact Py.str hs he hd hx rfl (by simp) (fun w hw j v hj => by simp [u8s] at hj)
theorem JO.rowV0 {e : TypeId} {v : Value} {l : List Oper} (q : Pick (Row e v []) As r) (k : ∀ a c, v = .slice a 0 c → (a = none → c = 0) → JO P G ops Q l n base L D As) : JO P G ops Q l n base L D As :=
  ⟨fun w hw => by
    obtain ⟨h1, h2, _, _, hA, _⟩ := (hw.pick q).mem
    rcases hA with ⟨hv, _⟩ | ⟨b, cap, cur, hv, _⟩
    · exact (k none 0 hv (fun _ => rfl)).run w hw
    · exact (k (some ⟨b, 0, none⟩) cap hv (fun h => by cases h)).run w hw⟩
end
/-- A reader that gives these bytes, 512 asked at a time. -/
structure RdSrc (G : Gst) (ea : Addr) (eT : TypeId) (ef : Nat × Nat) where
  σ : Type
  t : TypeId
  u : Value
  f : FuncId
  out : List Nat
  pos : σ → Nat
  ms : σ → Nat
  A : σ → Asn
  s0 : σ
  p0 : pos s0 = 0
  le : ∀ s, pos s ≤ out.length
  m : Mth Tryz.prog t u "Read" f u
  con : ∀ (s : σ) (pb : Nat), Con Tryz.prog G f #[u, .slice (some ⟨pb, 0, none⟩) 512 512] [A s, cel pb 5 (Array.replicate 512 (.int .u8 0)), EofA ea eT ef]
    (fun x : {x : σ × Nat × Bool // pos x.1 = pos s + x.2.1 ∧ x.2.1 ≤ 512 ∧ (x.2.2 = true → pos x.1 = out.length) ∧ (x.2.2 = false → ms x.1 < ms s)} => .tuple #[.int .i64 (x.1.2.1 : Int), if x.1.2.2 then eofV ea else .nilIface])
    (fun x => [A x.1.1, cel pb 5 (splice (Array.replicate 512 (.int .u8 0)) 0 (piece out (pos s) x.1.2.1)), EofA ea eT ef])
theorem str_lit {l : List Nat} {m : Array UInt8} {c : Bool} (h : (l.map UInt8.ofNat == m.toList) = c) : ((strB l).toList == (ByteArray.mk m).toList) = c := by
  rw [ByteArray.toList_eq, ByteArray.toList_eq]
  exact h
theorem zeros_piece {m : Nat} {out : List Nat} {p n : Nat} (hn : n ≤ m) (h : p + n ≤ out.length) : ((splice (Array.replicate m (Value.int .u8 0)) 0 (piece out p n)).extract 0 (0 + n)).toList = u8s ((out.drop p).take n) := by
  rw [← piece_eq h]
  unfold splice
  have hl := piece_len out p n
  simp [List.extract_eq_take_drop, hl]
theorem take_grow {out : List Nat} {p n : Nat} : out.take p ++ (out.drop p).take n = out.take (p + n) := by
  rw [List.take_add]
set_option maxRecDepth 100000 in
theorem decomp_con (G : Gst) (b : Nat) (xs : List Nat) (m : Nat) (hm : xs.length = m) (hx : ∀ x ∈ xs, x < 256) (f : FuncId)
    (h : (xs.map UInt8.ofNat = [3, 1, 1] ∧ f = 39) ∨ (xs.map UInt8.ofNat = [33] ∧ f = 46) ∨ (xs.map UInt8.ofNat = [3, 3, 1, 3] ∧ f = 40) ∨ (xs.map UInt8.ofNat = [3, 3, 2, 5] ∧ f = 42) ∨ (xs.map UInt8.ofNat = [3, 3, 5, 1] ∧ f = 43) ∨ (xs.map UInt8.ofNat = [3, 3, 8, 5] ∧ f = 44)) :
    Con Tryz.prog G 34 #[.slice (some ⟨b, 0, none⟩) m m] [cel b 5 (u8s xs).toArray] (fun _ : Unit => .func (.func f) #[] #[]) (fun _ => []) := by
  have hr : ∀ j v, (u8s xs)[j]? = some v → (u8s xs).toArray[0 + j]? = some v := fun j v h => by simpa using h
  refine Con.intro Tryz.func34 rfl (by kernel_rfl) Tryz.ntmps34 (Nat.le_of_ble_eq_true rfl) ?_
  intro F
  show JC _ _ _ _ _ _ [(0, _)] _ [_, _]
  refine sR ?_
  refine oC ?_
  refine nC (JC.seq (sR ?_))
  refine oM ?_
  refine JO.py (Py.str Tryz.underlying22 Tryz.underlying5 Tryz.underlying9 xe hm hx (Reads.cel xpick hr)) ?_
  refine nC (JC.block (sR ?_))
  refine JO.py (Py.streq (c := false) xe ev_const (str_lit (by rcases h with ⟨h, -⟩ | ⟨h, -⟩ | ⟨h, -⟩ | ⟨h, -⟩ | ⟨h, -⟩ | ⟨h, -⟩ <;> rw [h] <;> rfl))) ?_
  refine oA ?_
  refine nC ?_
  refine cF ?_
  refine sR ?_
  refine JO.py (Py.streq (c := false) xe ev_const (str_lit (by rcases h with ⟨h, -⟩ | ⟨h, -⟩ | ⟨h, -⟩ | ⟨h, -⟩ | ⟨h, -⟩ | ⟨h, -⟩ <;> rw [h] <;> rfl))) ?_
  refine oA ?_
  refine nC ?_
  refine cF ?_
  refine sR ?_
  rcases h with ⟨h, rfl⟩ | h
  · skip
    refine JO.py (Py.streq (c := true) xe ev_const (str_lit (by rw [h]; rfl))) ?_
    refine oA ?_
    refine nC ?_
    refine cT ?_
    refine sR ?_
    refine JO.py (Py.assign ev_func) ?_
    refine nC (JC.ret (JX.blockR (JX.ret ?_)))
    refine JX.end1 (Or.inl rfl) (()) Tryz.results34 ((xe).trans (by first | exact xval | (dsimp only; exact xval))) xpkE
  refine JO.py (Py.streq (c := false) xe ev_const (str_lit (by rcases h with ⟨h, -⟩ | ⟨h, -⟩ | ⟨h, -⟩ | ⟨h, -⟩ | ⟨h, -⟩ <;> rw [h] <;> rfl))) ?_
  refine oA ?_
  refine nC ?_
  refine cF ?_
  refine sR ?_
  rcases h with h | h
  · skip
    obtain ⟨h, rfl⟩ := h
    refine JO.py (Py.streq (c := false) xe ev_const (str_lit (by rw [h]; rfl))) ?_
    refine oA ?_
    refine nC ?_
    refine cF ?_
    refine sR ?_
    refine JO.py (Py.streq (c := false) xe ev_const (str_lit (by rw [h]; rfl))) ?_
    refine oA ?_
    refine nC ?_
    refine cF ?_
    refine sR ?_
    refine JO.py (Py.streq (c := false) xe ev_const (str_lit (by rw [h]; rfl))) ?_
    refine oA ?_
    refine nC ?_
    refine cF ?_
    refine sR ?_
    refine JO.py (Py.streq (c := false) xe ev_const (str_lit (by rw [h]; rfl))) ?_
    refine oA ?_
    refine nC ?_
    refine cF ?_
    refine sR ?_
    refine JO.py (Py.streq (c := false) xe ev_const (str_lit (by rw [h]; rfl))) ?_
    refine oA ?_
    refine nC ?_
    refine cF ?_
    refine sR ?_
    refine JO.py (Py.streq (c := false) xe ev_const (str_lit (by rw [h]; rfl))) ?_
    refine oA ?_
    refine nC ?_
    refine cF ?_
    refine sR ?_
    refine JO.py (Py.streq (c := true) xe ev_const (str_lit (by rw [h]; rfl))) ?_
    refine oA ?_
    refine nC ?_
    refine cT ?_
    refine sR ?_
    refine JO.py (Py.assign ev_func) ?_
    refine nC (JC.ret (JX.blockR (JX.ret ?_)))
    refine JX.end1 (Or.inl rfl) (()) Tryz.results34 ((xe).trans (by first | exact xval | (dsimp only; exact xval))) xpkE
  rcases h with ⟨h, rfl⟩ | h
  · skip
    refine JO.py (Py.streq (c := true) xe ev_const (str_lit (by rw [h]; rfl))) ?_
    refine oA ?_
    refine nC ?_
    refine cT ?_
    refine sR ?_
    refine JO.py (Py.assign ev_func) ?_
    refine nC (JC.ret (JX.blockR (JX.ret ?_)))
    refine JX.end1 (Or.inl rfl) (()) Tryz.results34 ((xe).trans (by first | exact xval | (dsimp only; exact xval))) xpkE
  refine JO.py (Py.streq (c := false) xe ev_const (str_lit (by rcases h with ⟨h, -⟩ | ⟨h, -⟩ | ⟨h, -⟩ <;> rw [h] <;> rfl))) ?_
  refine oA ?_
  refine nC ?_
  refine cF ?_
  refine sR ?_
  refine JO.py (Py.streq (c := false) xe ev_const (str_lit (by rcases h with ⟨h, -⟩ | ⟨h, -⟩ | ⟨h, -⟩ <;> rw [h] <;> rfl))) ?_
  refine oA ?_
  refine nC ?_
  refine cF ?_
  refine sR ?_
  rcases h with ⟨h, rfl⟩ | h
  · skip
    refine JO.py (Py.streq (c := true) xe ev_const (str_lit (by rw [h]; rfl))) ?_
    refine oA ?_
    refine nC ?_
    refine cT ?_
    refine sR ?_
    refine JO.py (Py.assign ev_func) ?_
    refine nC (JC.ret (JX.blockR (JX.ret ?_)))
    refine JX.end1 (Or.inl rfl) (()) Tryz.results34 ((xe).trans (by first | exact xval | (dsimp only; exact xval))) xpkE
  refine JO.py (Py.streq (c := false) xe ev_const (str_lit (by rcases h with ⟨h, -⟩ | ⟨h, -⟩ <;> rw [h] <;> rfl))) ?_
  refine oA ?_
  refine nC ?_
  refine cF ?_
  refine sR ?_
  rcases h with ⟨h, rfl⟩ | ⟨h, rfl⟩
  · skip
    refine JO.py (Py.streq (c := true) xe ev_const (str_lit (by rw [h]; rfl))) ?_
    refine oA ?_
    refine nC ?_
    refine cT ?_
    refine sR ?_
    refine JO.py (Py.assign ev_func) ?_
    refine nC (JC.ret (JX.blockR (JX.ret ?_)))
    refine JX.end1 (Or.inl rfl) (()) Tryz.results34 ((xe).trans (by first | exact xval | (dsimp only; exact xval))) xpkE
  · skip
    refine JO.py (Py.streq (c := false) xe ev_const (str_lit (by rw [h]; rfl))) ?_
    refine oA ?_
    refine nC ?_
    refine cF ?_
    refine sR ?_
    refine JO.py (Py.streq (c := true) xe ev_const (str_lit (by rw [h]; rfl))) ?_
    refine oA ?_
    refine nC ?_
    refine cT ?_
    refine sR ?_
    refine JO.py (Py.assign ev_func) ?_
    refine nC (JC.ret (JX.blockR (JX.ret ?_)))
    refine JX.end1 (Or.inl rfl) (()) Tryz.results34 ((xe).trans (by first | exact xval | (dsimp only; exact xval))) xpkE
set_option maxRecDepth 100000 in
set_option maxHeartbeats 4000000 in
theorem zz_con (G : Gst) (ea : Addr) (eT : TypeId) (ef : Nat × Nat) (ib : Nat) (id : List Nat) (im : Nat) (him : id.length = im) (hid : ∀ x ∈ id, x < 256) (f : FuncId)
    (h : (id.map UInt8.ofNat = [3, 1, 1] ∧ f = 39) ∨ (id.map UInt8.ofNat = [33] ∧ f = 46) ∨ (id.map UInt8.ofNat = [3, 3, 1, 3] ∧ f = 40) ∨ (id.map UInt8.ofNat = [3, 3, 2, 5] ∧ f = 42) ∨ (id.map UInt8.ofNat = [3, 3, 5, 1] ∧ f = 43) ∨ (id.map UInt8.ofNat = [3, 3, 8, 5] ∧ f = 44))
    (pv sv : Value) (hsv : sv.oneCell' = true) (z : Nat) (sl : Nat) (st : List Nat) (A : Asn) {ι : Type} (S : ι → RdSrc G ea eT ef) (out : List Nat) (hout : ∀ i, (S i).out = out) (holen : out.length ≤ 60000)
    (hnew : ∀ rb rc r rcur, rcur[0]? = some (.iface 88 (.agg #[.pointer (some ⟨r, 0, none⟩)])) → Con Tryz.prog G f #[pv, .int .u64 (z : Int), .slice (some ⟨rb, 0, none⟩) 1 rc] [A, cel rb 90 rcur, BrA r sv 0 (-1), Row 5 sv (u8s st), EofA ea eT ef]
      (fun i : ι => .tuple #[.iface (S i).t (S i).u, .nilIface]) (fun i => [(S i).A (S i).s0, EofA ea eT ef])) :
    Con Tryz.prog G 29 #[.slice (some ⟨ib, 0, none⟩) im im, pv, .int .u64 (z : Int), .slice (some ⟨sl, 0, none⟩) 1 1, .int .i64 65536] [cel ib 5 (u8s id).toArray, A, cel sl 22 #[sv], Row 5 sv (u8s st), EofA ea eT ef]
      (fun v : Value => .tuple #[v, .nilIface]) (fun v => [Row 5 v (u8s out), EofA ea eT ef]) := by
  refine Con.intro Tryz.func29 rfl (by kernel_rfl) Tryz.ntmps29 (Nat.le_of_ble_eq_true rfl) ?_
  intro F
  show JC _ _ _ _ _ _ [(0, _), (1, _), (2, _), (3, _), (4, _)] _ [_, _, _, _, _, _]
  refine sR ?_
  refine oC ?_
  refine oC ?_
  refine nC (sR ?_)
  refine oM ?_
  refine JO.call (Evs.cons xe Evs.nil) (decomp_con G ib id im him hid f h) xpkE ?_
  rintro _
  show JO _ _ _ _ _ _ _ ((23, _) :: _) _ (_ :: _)
  refine oA ?_
  refine nC (JC.seq (sR ?_))
  refine oM ?_
  refine JO.py (Py.eqlFN Tryz.underlying82 xe) ?_
  refine nC ?_
  refine cF ?_
  refine JC.skip (JX.code (sR ?_))
  refine oC ?_
  refine nC (JC.seq (sR ?_))
  refine oM ?_
  refine JO.py (Py.lenS Tryz.underlying68 xe) ?_
  refine JO.py (Py.move ev_const) ?_
  refine nC (JC.block ?_)
  refine JC.unroll 1 ?_
  refine sR ?_
  first | refine oD (Py.lss xe xe) ?_ | refine oU (Py.lss xe xe) ?_ | refine JO.py (Py.lss xe xe) ?_
  refine nC (JC.seq ?_)
  refine cT ?_
  refine JC.skip (JX.code (JC.seq (JC.block (sR ?_))))
  refine JO.py (Py.idxS Tryz.underlying68 siz22 xe xe (by omega) xidx xmult) ?_
  refine JO.py (Py.load scal22 xe xpick xrow) ?_
  refine oA ?_
  refine nC (JC.region ?_)
  refine oM ?_
  refine oM ?_
  refine JO.call (Evs.cons xe Evs.nil) (newRd_con G sv hsv) xpkE ?_
  rintro r
  show JO _ _ _ _ _ _ _ ((35, _) :: _) _ (_ :: _ :: _)
  refine JO.py (Py.build bld88 (Pts.cons xe Pts.nil) xfl) ?_
  refine JO.py (Py.mki mki88 xe) ?_
  refine JO.bslice Tryz.underlying84 elm90 (Evs.cons xe Evs.nil) rfl rfl (by simp [Value.oneCell']) (by decide) ?_; intro b38
  refine JO.free (A := Row 90 (.slice none 0 0) []) (.inl ⟨rfl, rfl⟩) ?_
  refine JO.app Tryz.underlying84 elm90 xe xe xpick (Src.lit rfl xpick (by rfl) (by simp [Value.oneCell'])) (by decide) (by decide) ?_
  intro v39 ho39
  rw [List.nil_append]
  refine oA ?_
  refine JO.nil (JX.blockN (JX.code (JC.region ?_)))
  refine JO.py (Py.add xe ev_const wI) ?_
  refine oM ?_
  refine JO.nil (JX.again (sR ?_))
  first | refine oD (Py.lss xe xe) ?_ | refine oU (Py.lss xe xe) ?_ | refine JO.py (Py.lss xe xe) ?_
  refine nC (JC.seq ?_)
  refine cF ?_
  refine JC.exit (JX.exit (JX.exit (JX.blockE (JX.code (sR ?_)))))
  refine oM ?_
  refine oM ?_
  refine oM ?_
  refine oM ?_
  refine JO.unrow (e := 90) (v := v39) (xs := [.iface 88 (.agg #[.pointer (some ⟨r, 0, none⟩)])]) xpick (by simp) ?_
  rintro rb rc rcur rfl hrr
  rw [List.length_singleton]
  have hr0 : rcur[0]? = some (.iface 88 (.agg #[.pointer (some ⟨r, 0, none⟩)])) := hrr.get rfl
  refine JO.callV xe (Evs.cons xe (Evs.cons xe (Evs.cons xe Evs.nil))) (hnew rb rc r rcur hr0) xpkE ?_
  rintro i
  show JO _ _ _ _ _ _ _ ((46, _) :: _) _ (_ :: _ :: _ :: _)
  have hRo := hout i
  generalize S i = R at hRo ⊢
  subst hRo
  refine oM ?_
  refine JO.py (Py.extrI xe xix) ?_
  refine JO.py (Py.extrI xe xix) ?_
  refine oA ?_
  refine oA ?_
  refine nC (JC.seq (sR ?_))
  refine oM ?_
  first | refine JO.py (Py.neqNil Tryz.underlying70 xe rfl) ?_ | refine JO.py (Py.neqHeld Tryz.underlying70 xe rfl) ?_
  refine nC ?_
  refine cF ?_
  refine JC.skip (JX.code (sR ?_))
  refine oC ?_
  refine nC (JC.seq (JC.block ?_))
  refine JC.free (A := Row 5 (.slice none 0 0) (u8s [])) (.inl ⟨rfl, rfl⟩) ?_
  refine JC.loop (ι := R.σ × Value) (fun _ => True) (fun x => [(4, .int .i64 65536), (16, .iface R.t R.u), (18, x.2)]) (fun x => [R.A x.1, Row 5 x.2 (u8s (R.out.take (R.pos x.1))), EofA ea eT ef, F]) (fun x => R.ms x.1) (R.s0, .slice none 0 0) trivial xag (by dsimp only; rw [R.p0, List.take_zero]; exact xpkE) ?_
  rintro ⟨s, v⟩ base' -
  dsimp only
  have hle := R.le s
  obtain ⟨p, hp⟩ : ∃ p, R.pos s = p := ⟨_, rfl⟩
  have hcon := R.con s
  rw [hp] at hle hcon ⊢
  refine JC.rowV (e := 5) (v := v) (xs := u8s (R.out.take p)) xpick ?_
  rintro a c rfl hc
  have hl2 : (u8s (R.out.take p)).length = p := by rw [u8s_len, List.length_take]; omega
  rw [hl2]
  refine JC.seq (sR ?_)
  refine oM ?_
  refine JO.py (Py.lenS Tryz.underlying22 xe) ?_
  refine oM ?_
  first | refine oD (Py.lss xe xe) ?_ | refine oU (Py.lss xe xe) ?_ | refine JO.py (Py.lss xe xe) ?_
  refine nC ?_
  refine cT ?_
  refine JC.skip (JX.code (JC.block (sR ?_)))
  refine oM ?_
  refine oM ?_
  refine JO.py (Py.lenS Tryz.underlying22 xe) ?_
  refine JO.py (Py.sub xe xe wI) ?_
  first | refine JO.py (Py.minT ev_const xe (by omega)) ?_ | refine JO.py (Py.minF ev_const xe (by omega)) ?_ | refine JO.py (Py.min2 ev_const xe) ?_
  refine JO.mkslice (m := 512) (c := 512) Tryz.underlying22 elm5 xe xe (by omega) (by omega) (by omega) (by omega) (by omega) ?_
  intro b61
  refine oA ?_
  refine nC (sR ?_)
  refine oM ?_
  refine oM ?_
  refine JO.invoke xe (Evs.cons xe Evs.nil) (R.m) (hcon b61) xpkE ?_
  rintro ⟨⟨s', n, e⟩, h1, h2, h3, h4⟩
  show JO _ _ _ _ _ _ _ ((65, _) :: _) _ (_ :: _ :: _ :: _ :: _)
  dsimp only at h1 h2 h3 h4 ⊢
  have hle' := R.le s'
  have hsz : 0 + n ≤ (splice (Array.replicate 512 (Value.int .u8 0)) 0 (piece R.out p n)).size := by rw [splice_size (by rw [piece_len]; simp; omega)]; simp; omega
  cases e
  · skip
    have h5 := h4 rfl
    rw [if_neg Bool.false_ne_true]
    refine oM ?_
    refine JO.py (Py.extrI xe xix) ?_
    refine JO.py (Py.extrI xe xix) ?_
    refine oA ?_
    refine oA ?_
    refine nC (sR ?_)
    refine oM ?_
    refine oM ?_
    refine oM ?_
    refine JO.py (Py.slc (l := 0) (h := n) (p := 0) (q := n) (c := 512) Tryz.underlying22 siz5 xe Bd.none (Bd.some xe (by omega)) (by omega) (by omega) (by omega) (by omega) (by omega) (by omega)) ?_
    refine JO.app Tryz.underlying22 elm5 xe xe xpick (Src.cel rfl xpick hsz (zeros_piece h2 (by omega)) u8s_one) (by rw [hl2]; omega) (by decide) ?_
    intro v72 ho72
    have htk : R.out.take (p + n) = R.out.take (R.pos s') := by rw [h1]
    rw [← u8s_append, take_grow, htk]
    refine oA ?_
    refine nC (sR ?_)
    refine oM ?_
    first | refine JO.py (Py.neqNil Tryz.underlying70 xe rfl) ?_ | refine JO.py (Py.neqHeld Tryz.underlying70 xe rfl) ?_
    refine nC ?_
    refine cF ?_
    refine JC.skip (JX.blockN ?_)
    refine JX.loop (s', v72) trivial h5 xag xpkE
  · skip
    have h5 := h3 rfl
    rw [if_pos rfl]
    refine oM ?_
    refine JO.py (Py.extrI xe xix) ?_
    refine JO.py (Py.extrI xe xix) ?_
    refine oA ?_
    refine oA ?_
    refine nC (sR ?_)
    refine oM ?_
    refine oM ?_
    refine oM ?_
    refine JO.py (Py.slc (l := 0) (h := n) (p := 0) (q := n) (c := 512) Tryz.underlying22 siz5 xe Bd.none (Bd.some xe (by omega)) (by omega) (by omega) (by omega) (by omega) (by omega) (by omega)) ?_
    refine JO.app Tryz.underlying22 elm5 xe xe xpick (Src.cel rfl xpick hsz (zeros_piece h2 (by omega)) u8s_one) (by rw [hl2]; omega) (by decide) ?_
    intro v72 ho72
    have htk : R.out.take (p + n) = R.out := by rw [← h1, h5, List.take_length]
    rw [← u8s_append, take_grow, htk]
    refine oA ?_
    refine nC (sR ?_)
    refine oM ?_
    first | refine JO.py (Py.neqNil Tryz.underlying70 xe rfl) ?_ | refine JO.py (Py.neqHeld Tryz.underlying70 xe rfl) ?_
    refine nC ?_
    refine cT ?_
    refine JC.seq (sR ?_)
    refine oM ?_
    refine JO.py (Py.load scal70 ev_glob xpick xrow) ?_
    refine JO.call (Evs.cons xe (Evs.cons xe Evs.nil)) (is_con G ea) xpkE ?_
    rintro _
    show JO _ _ _ _ _ _ _ ((77, _) :: _) _ (_ :: _)
    refine nC ?_
    refine cT ?_
    refine sR ?_
    refine oM ?_
    refine oA ?_
    refine oC ?_
    refine nC (JC.ret (JX.ret (JX.blockR (JX.ret (JX.blockR (JX.ret ?_))))))
    refine JX.end2 (Or.inl rfl) (v72) Tryz.results29 (tup2 ((xe).trans (by first | exact xval | (dsimp only; exact xval))) ((xe).trans (by first | exact xval | (dsimp only; exact xval)))) xpkE
section
variable {P : Program} {G : Gst} {ops : Array Oper} {Q : Exit → Act → World → Prop} {n : Nat} {base : Nat → Value} {L : List (Nat × Value)} {D : List Deferred} {As r r' : List Asn}
  {ty : TypeId} {pos : String} {aft : Array Edge} {rest : List Oper}
theorem JC.rowSplit {e : TypeId} {v : Value} {xs : List Value} {l : Code} (q : Pick (Row e v xs) As r) (k1 : v = .slice none 0 0 → xs = [] → JC P G Q l n base L D As) (k : ∀ b cap cur, v = .slice (some ⟨b, 0, none⟩) xs.length cap → RowOf xs cap cur → JC P G Q l n base L D (cel b e cur :: r)) : JC P G Q l n base L D As :=
  ⟨fun w hw => by
    obtain ⟨h1, h2, hd, he, hA, hB⟩ := (hw.pick q).mem
    rcases hA with ⟨hv, hx⟩ | ⟨b, cap, cur, hv, hc, hlt, hs, ht, hb⟩
    · exact (k1 hv hx).run w hw
    · exact (k b cap cur hv ⟨hc, hlt, hs, ht⟩).run w ((hw.pick q).of fun _ => ⟨h1, h2, hd, he, hb, hB⟩)⟩
end
set_option maxRecDepth 100000 in
theorem cloneRow_con (G : Gst) (v : Value) (xs : List Nat) (hx : ∀ x ∈ xs, x < 256) (hl : xs.length ≤ 1000000) : Con Tryz.prog G 15 #[v] [Row 5 v (u8s xs)] (fun x : Value => x) (fun x => [Row 5 x (u8s xs)]) := by
  refine Con.intro Tryz.func15 rfl (by kernel_rfl) Tryz.ntmps15 (Nat.le_of_ble_eq_true rfl) ?_
  intro F
  show JC _ _ _ _ _ _ [(0, _)] _ [_, _]
  refine JC.rowSplit (e := 5) (v := v) (xs := u8s xs) xpick ?_ ?_
  · rintro rfl hxs
    rw [hxs]
    refine sR ?_
    refine oC ?_
    refine nC (JC.seq (sR ?_))
    refine oM ?_
    refine JO.py (Py.to (v' := .bool true) (Py.eqlSN Tryz.underlying22 xe) rfl) ?_
    refine nC ?_
    refine cT ?_
    refine sR ?_
    refine oC ?_
    refine nC (JC.ret (JX.ret ?_))
    refine JX.end1 (Or.inl rfl) (.slice none 0 0) Tryz.results15 ((xe).trans (by first | exact xval | (dsimp only; exact xval))) xpkE
  · rintro b cap cur rfl hr
    obtain ⟨m, hm⟩ : ∃ m, xs.length = m := ⟨_, rfl⟩
    have hsz := hr.size
    have hle := hr.le
    rw [u8s_len, hm] at hle ⊢
    refine sR ?_
    refine oC ?_
    refine nC (JC.seq (sR ?_))
    refine oM ?_
    refine JO.py (Py.to (v' := .bool false) (Py.eqlSN Tryz.underlying22 xe) rfl) ?_
    refine nC ?_
    refine cF ?_
    refine JC.skip (JX.code (sR ?_))
    refine JO.bslice Tryz.underlying22 elm5 Evs.nil rfl rfl (by first | (simp [Value.oneCell']; done) | (simp only [List.mem_cons, List.not_mem_nil, or_false, forall_eq]; assumption) | fail) (by decide) ?_; intro b5
    refine oM ?_
    refine JO.toRow (b := b5) (e := 5) (cur := #[]) (xs := u8s []) (m := 0) xpick rfl rfl (by decide) ?_
    refine JO.app Tryz.underlying22 elm5 xe xe xpick (Src.cel rfl xpick (by rw [Nat.zero_add, hsz]; exact hle) ((hr.rd hx).ext hm (by rw [Nat.zero_add, hsz]; exact hle)) u8s_one) (by simp [u8s]; omega) (by decide) ?_
    intro v7 ho7
    rw [show u8s [] ++ u8s xs = u8s xs from rfl]
    refine oA ?_
    refine nC (JC.ret ?_)
    refine JX.end1 (Or.inl rfl) (v7) Tryz.results15 ((xe).trans (by first | exact xval | (dsimp only; exact xval))) xpkE
/-- Which method an id names. -/
def IdOf (id : List Nat) (f : FuncId) : Prop := (id.map UInt8.ofNat = [3, 1, 1] ∧ f = 39) ∨ (id.map UInt8.ofNat = [33] ∧ f = 46) ∨ (id.map UInt8.ofNat = [3, 3, 1, 3] ∧ f = 40) ∨ (id.map UInt8.ofNat = [3, 3, 2, 5] ∧ f = 42) ∨ (id.map UInt8.ofNat = [3, 3, 5, 1] ∧ f = 43) ∨ (id.map UInt8.ofNat = [3, 3, 8, 5] ∧ f = 44)
set_option maxRecDepth 100000 in
theorem method_con (G : Gst) (ea : Addr) (eT : TypeId) (ef : Nat × Nat) (ib : Nat) (id : List Nat) (im : Nat) (him : id.length = im) (hid : ∀ x ∈ id, x < 256) (f : FuncId) (h : IdOf id f)
    (pv bv : Value) (z : Nat) (hz : z ≤ 60000) (st : List Nat) (hst : ∀ x ∈ st, x < 256) (hsl : st.length ≤ 1000000) (A : Asn) {ι : Type} (S : ι → RdSrc G ea eT ef) (out : List Nat) (hout : ∀ i, (S i).out = out) (holen : out.length ≤ 60000) (hob : ∀ x ∈ out, x < 256)
    (hnew : ∀ sv rb rc r rcur, rcur[0]? = some (.iface 88 (.agg #[.pointer (some ⟨r, 0, none⟩)])) → Con Tryz.prog G f #[pv, .int .u64 (z : Int), .slice (some ⟨rb, 0, none⟩) 1 rc] [A, cel rb 90 rcur, BrA r sv 0 (-1), Row 5 sv (u8s st), EofA ea eT ef]
      (fun i : ι => .tuple #[.iface (S i).t (S i).u, .nilIface]) (fun i => [(S i).A (S i).s0, EofA ea eT ef])) :
    Con Tryz.prog G 14 #[.slice (some ⟨ib, 0, none⟩) im im, pv, .int .i64 (z : Int), bv] [cel ib 5 (u8s id).toArray, A, Row 5 bv (u8s st), EofA ea eT ef]
      (fun v : Value => .tuple #[v, .bool true]) (fun v => [Row 5 v (u8s out), EofA ea eT ef]) := by
  refine Con.intro Tryz.func14 rfl (by kernel_rfl) Tryz.ntmps14 (Nat.le_of_ble_eq_true rfl) ?_
  intro F
  show JC _ _ _ _ _ _ [(0, _), (1, _), (2, _), (3, _)] _ [_, _, _, _, _]
  refine sR ?_
  refine oC ?_
  refine oC ?_
  refine nC (sR ?_)
  refine oM ?_
  refine oM ?_
  refine oM ?_
  first | refine JO.py (Py.conv cnv3_43 xe (w_u64 (by omega))) ?_ | refine JO.py (Py.conv cnv3_43 xe (m_u64 _)) ?_
  refine oM ?_
  refine JO.call (Evs.cons xe Evs.nil) (cloneRow_con G bv st hst hsl) xpkE ?_
  rintro sv
  show JO _ _ _ _ _ _ _ ((18, _) :: _) _ (_ :: _ :: _)
  refine JO.rowV (e := 5) (v := sv) (xs := u8s st) xpick ?_
  intro a_ c_ hsv _
  have hs1 : sv.oneCell' = true := by rw [hsv]; rfl
  refine JO.bslice Tryz.underlying68 elm22 (Evs.cons xe Evs.nil) rfl rfl (by first | (simp [Value.oneCell']; done) | (simp only [List.mem_cons, List.not_mem_nil, or_false, forall_eq]; assumption) | fail) (by decide) ?_; intro b19
  refine JO.call (Evs.cons xe (Evs.cons xe (Evs.cons xe (Evs.cons xe (Evs.cons ev_const Evs.nil))))) (zz_con G ea eT ef ib id im him hid f h pv sv hs1 z b19 st A S out hout holen (hnew sv)) xpkE ?_
  rintro ov
  show JO _ _ _ _ _ _ _ ((20, _) :: _) _ (_ :: _ :: _ :: _)
  refine oM ?_
  refine JO.py (Py.extrI xe xix) ?_
  refine JO.py (Py.extrI xe xix) ?_
  refine oA ?_
  refine oA ?_
  refine nC (JC.seq (sR ?_))
  refine oM ?_
  first | refine JO.py (Py.neqNil Tryz.underlying70 xe rfl) ?_ | refine JO.py (Py.neqHeld Tryz.underlying70 xe rfl) ?_
  refine nC ?_
  refine cF ?_
  refine JC.skip (JX.code (sR ?_))
  refine oM ?_
  refine JO.call (Evs.cons xe Evs.nil) (cloneRow_con G ov out hob (by omega)) xpkE ?_
  rintro v
  show JO _ _ _ _ _ _ _ ((26, _) :: _) _ (_ :: _ :: _)
  refine oA ?_
  refine oC ?_
  refine nC (JC.ret ?_)
  refine JX.end2 (Or.inl rfl) (v) Tryz.results14 (tup2 ((xe).trans (by first | exact xval | (dsimp only; exact xval))) ((xe).trans (by first | exact xval | (dsimp only; exact xval)))) xpkE
theorem Sat.get {G : Gst} {w : World} {p l r : List Asn} (h : Sat G w l) (q : Picks p l r) : Sat G w p :=
  (h.picks q).of fun hs => by
    obtain ⟨h1, h2, hd, e, ha, _⟩ := stars_append.1 hs
    rw [e]; exact stars_up _ (Hp.le_un h1 h2) ha
end Go.Proofs.YtfpepghmbeoanaaGreatDoor
end

section
namespace Go.Proofs.YtfpepghmbeoanaaGreatDoor.Bx
def far (x : Nat) : Bool := x == 0 || x == 255
def op (x : Nat) : Bool := x == 232 || x == 233
theorem far_iff {x : Nat} : far x = true ↔ x = 0 ∨ x = 255 := by simp [far]
theorem far_false {x : Nat} : far x = false ↔ x ≠ 0 ∧ x ≠ 255 := by simp [far]
/-- Which of the three bytes ahead are calls that were left, and whether their highest byte is far. -/
structure H where
  a : Option Bool
  b : Option Bool
  c : Option Bool
def H.none : H := ⟨.none, .none, .none⟩
def H.next (h : H) (x : Option Bool) : H := ⟨x, h.a, h.b⟩
/-- The place of the one that was left: 0 where there is none, 4 where there is more than one or it is far. -/
def H.n (h : H) : Nat := match h with
  | ⟨.none, .none, .none⟩ => 0
  | ⟨some false, .none, .none⟩ => 1
  | ⟨.none, some false, .none⟩ => 2
  | ⟨.none, .none, some false⟩ => 3
  | _ => 4
def H.md (h : H) : Nat := (if h.a.isSome then 4 else 0) + (if h.b.isSome then 2 else 0) + (if h.c.isSome then 1 else 0)
/-- The lowest bits are turned over. -/
def fl (K v : Nat) : Nat := v / K * K + (K - 1 - v % K)
def W : Nat := 4294967296
def enc1 (cur n s : Nat) : Nat :=
  let d := (s + cur) % 4294967296
  match n with
  | 1 => if far (d / 65536 % 256) then (fl 16777216 d + cur) % 4294967296 else d
  | 2 => if far (d / 256 % 256) then (fl 65536 d + cur) % 4294967296 else d
  | 3 => if far (d % 256) then (fl 256 d + cur) % 4294967296 else d
  | _ => d
def dec1 (cur n e : Nat) : Nat :=
  let v := (e + (4294967296 - cur % 4294967296)) % 4294967296
  match n with
  | 1 => if far (v / 65536 % 256) then (fl 16777216 v + (4294967296 - cur % 4294967296)) % 4294967296 else v
  | 2 => if far (v / 256 % 256) then (fl 65536 v + (4294967296 - cur % 4294967296)) % 4294967296 else v
  | 3 => if far (v % 256) then (fl 256 v + (4294967296 - cur % 4294967296)) % 4294967296 else v
  | _ => v
theorem enc1_1 {cur s : Nat} : enc1 cur 1 s = if far ((s + cur) % 4294967296 / 65536 % 256) then (fl 16777216 ((s + cur) % 4294967296) + cur) % 4294967296 else (s + cur) % 4294967296 := rfl
theorem dec1_1 {cur e : Nat} : dec1 cur 1 e = if far ((e + (4294967296 - cur % 4294967296)) % 4294967296 / 65536 % 256) then (fl 16777216 ((e + (4294967296 - cur % 4294967296)) % 4294967296) + (4294967296 - cur % 4294967296)) % 4294967296 else (e + (4294967296 - cur % 4294967296)) % 4294967296 := rfl
theorem enc1_2 {cur s : Nat} : enc1 cur 2 s = if far ((s + cur) % 4294967296 / 256 % 256) then (fl 65536 ((s + cur) % 4294967296) + cur) % 4294967296 else (s + cur) % 4294967296 := rfl
theorem dec1_2 {cur e : Nat} : dec1 cur 2 e = if far ((e + (4294967296 - cur % 4294967296)) % 4294967296 / 256 % 256) then (fl 65536 ((e + (4294967296 - cur % 4294967296)) % 4294967296) + (4294967296 - cur % 4294967296)) % 4294967296 else (e + (4294967296 - cur % 4294967296)) % 4294967296 := rfl
theorem enc1_3 {cur s : Nat} : enc1 cur 3 s = if far ((s + cur) % 4294967296 % 256) then (fl 256 ((s + cur) % 4294967296) + cur) % 4294967296 else (s + cur) % 4294967296 := rfl
theorem dec1_3 {cur e : Nat} : dec1 cur 3 e = if far ((e + (4294967296 - cur % 4294967296)) % 4294967296 % 256) then (fl 256 ((e + (4294967296 - cur % 4294967296)) % 4294967296) + (4294967296 - cur % 4294967296)) % 4294967296 else (e + (4294967296 - cur % 4294967296)) % 4294967296 := rfl
theorem enc1_0 {cur s : Nat} : enc1 cur 0 s = (s + cur) % 4294967296 := rfl
theorem dec1_0 {cur e : Nat} : dec1 cur 0 e = (e + (4294967296 - cur % 4294967296)) % 4294967296 := rfl
def le (x1 x2 x3 x4 : Nat) : Nat := x1 + 256 * x2 + 65536 * x3 + 16777216 * x4
def by1 (d : Nat) : Nat := d % 256
def by2 (d : Nat) : Nat := d / 256 % 256
def by3 (d : Nat) : Nat := d / 65536 % 256
def by4 (d : Nat) : Nat := if d / 16777216 % 2 = 1 then 255 else 0
theorem fl_mod {K : Nat} (hK : 0 < K) (v : Nat) : fl K v % K = K - 1 - v % K := by
  unfold fl
  have := Nat.mod_lt v hK
  rw [Nat.add_comm, Nat.add_mul_mod_self_right, Nat.mod_eq_of_lt (by omega)]
theorem fl_div {K : Nat} (hK : 0 < K) (v : Nat) : fl K v / K = v / K := by
  unfold fl
  have := Nat.mod_lt v hK
  rw [Nat.add_comm, Nat.add_mul_div_right _ _ hK, Nat.div_eq_of_lt (by omega), Nat.zero_add]
theorem fl_fl {K : Nat} (hK : 0 < K) (v : Nat) : fl K (fl K v) = v := by
  have h : fl K (fl K v) = fl K v / K * K + (K - 1 - fl K v % K) := rfl
  rw [h, fl_mod hK, fl_div hK]
  have := Nat.mod_lt v hK
  have h2 := Nat.div_add_mod v K
  rw [Nat.mul_comm] at h2
  omega
theorem fl_cong {K q v w : Nat} (hK : 0 < K) (h : v % (K * q) = w % (K * q)) : fl K v % (K * q) = fl K w % (K * q) := by
  have h1 : v % K = w % K := by rw [← Nat.mod_mul_right_mod v K q, h, Nat.mod_mul_right_mod]
  have h2 : v / K % q = w / K % q := by rw [← Nat.mod_mul_right_div_self, h, Nat.mod_mul_right_div_self]
  have e : ∀ x : Nat, fl K x % (K * q) = fl K x % K + K * (fl K x / K % q) := fun x => Nat.mod_mul
  rw [e, e, fl_mod hK, fl_mod hK, fl_div hK, fl_div hK, h1, h2]
theorem sub_add {e cur F : Nat} {g : Nat} (he : e = (F + cur) % 4294967296) (hg : g % 33554432 = e % 33554432) : (g + (4294967296 - cur % 4294967296)) % 4294967296 % 33554432 = F % 33554432 := by omega
/-- What follows from the numbers. -/
structure Good (n x1 x2 x3 x4 e : Nat) (cur : Nat) : Prop where
  near : (n = 1 → far (by3 e) = false) ∧ (n = 2 → far (by2 e) = false) ∧ (n = 3 → far (by1 e) = false)
  back : let v := dec1 cur n (le (by1 e) (by2 e) (by3 e) (by4 e)); by1 v = x1 ∧ by2 v = x2 ∧ by3 v = x3 ∧ by4 v = x4
theorem back_of {v x1 x2 x3 x4 : Nat} (h1 : x1 < 256) (h2 : x2 < 256) (h3 : x3 < 256) (h4 : x4 = 0 ∨ x4 = 255) (h : v % 33554432 = (le x1 x2 x3 x4) % 33554432) : by1 v = x1 ∧ by2 v = x2 ∧ by3 v = x3 ∧ by4 v = x4 := by
  unfold le at h
  unfold by1 by2 by3 by4
  refine ⟨by omega, by omega, by omega, ?_⟩
  rcases h4 with rfl | rfl
  · rw [if_neg (by omega)]
  · rw [if_pos (by omega)]
theorem le_mod (e : Nat) : le (by1 e) (by2 e) (by3 e) (by4 e) % 33554432 = e % 33554432 := by
  unfold le by1 by2 by3 by4
  split <;> omega
theorem inv {s cur F g K q : Nat} (hK : 0 < K) (hq : K * q = 33554432) (hg : g % 33554432 = F % 33554432) (hF : F = fl K ((s + cur) % 4294967296)) :
    (fl K g + (4294967296 - cur % 4294967296)) % 4294967296 % 33554432 = s % 33554432 := by
  have h := fl_cong (K := K) (q := q) (v := g) (w := F) hK (by rw [hq]; exact hg)
  rw [hF, fl_fl hK, hq] at h
  clear hg hF hq
  generalize fl K g = f at h
  omega
theorem good {n x1 x2 x3 x4 cur : Nat} (h1 : x1 < 256) (h2 : x2 < 256) (h3 : x3 < 256) (h4 : x4 = 0 ∨ x4 = 255) (hn : n < 4)
    (f1 : n = 1 → far x3 = false) (f2 : n = 2 → far x2 = false) (f3 : n = 3 → far x1 = false) : Good n x1 x2 x3 x4 (enc1 cur n (le x1 x2 x3 x4)) cur := by
  obtain ⟨s, hs⟩ : ∃ s, le x1 x2 x3 x4 = s := ⟨_, rfl⟩
  have hn : n = 0 ∨ n = 1 ∨ n = 2 ∨ n = 3 := by omega
  have e1 : s % 256 = x1 := by rw [← hs]; unfold le; omega
  have e2 : s / 256 % 256 = x2 := by rw [← hs]; unfold le; omega
  have e3 : s / 65536 % 256 = x3 := by rw [← hs]; unfold le; omega
  have bk : ∀ {v : Nat}, v % 33554432 = s % 33554432 → by1 v = x1 ∧ by2 v = x2 ∧ by3 v = x3 ∧ by4 v = x4 := fun h => back_of h1 h2 h3 h4 (by rw [hs]; exact h)
  rw [hs]
  clear hs
  rcases hn with rfl | rfl | rfl | rfl
  · rw [enc1_0]
    refine ⟨⟨by omega, by omega, by omega⟩, bk ?_⟩
    rw [dec1_0]
    exact sub_add rfl (le_mod _)
  · have f := far_false.1 (f1 rfl)
    rw [← e3] at f
    rw [enc1_1]
    split
    · rename_i hf
      rw [far_iff] at hf
      obtain ⟨D, hD⟩ : ∃ D, (s + cur) % 4294967296 = D := ⟨_, rfl⟩
      obtain ⟨F, hF⟩ : ∃ F, fl 16777216 D = F := ⟨_, rfl⟩
      have hm := fl_mod (K := 16777216) (by decide) D
      rw [hD, hF] 
      rw [hF] at hm
      rw [hD] at hf
      obtain ⟨e, he⟩ : ∃ e, (F + cur) % 4294967296 = e := ⟨_, rfl⟩
      rw [he]
      have hl := sub_add he.symm (le_mod e)
      refine ⟨⟨fun _ => far_false.2 (by unfold by3; clear hl hF e1 e2 e3; omega), by omega, by omega⟩, bk ?_⟩
      rw [dec1_1]
      generalize (le (by1 e) (by2 e) (by3 e) (by4 e) + (4294967296 - cur % 4294967296)) % 4294967296 = g at hl ⊢
      have ht : far (g / 65536 % 256) = true := far_iff.2 (by clear he hF hD e1 e2 e3; omega)
      rw [if_pos ht]
      exact inv (K := 16777216) (q := 2) (by decide) rfl hl (by rw [hD]; exact hF.symm)
    · rename_i hf
      rw [Bool.not_eq_true, far_false] at hf
      obtain ⟨e, he⟩ : ∃ e, (s + cur) % 4294967296 = e := ⟨_, rfl⟩
      rw [he] at hf ⊢
      have hl := sub_add he.symm (le_mod e)
      refine ⟨⟨fun _ => far_false.2 (by unfold by3; omega), by omega, by omega⟩, bk ?_⟩
      rw [dec1_1]
      generalize (le (by1 e) (by2 e) (by3 e) (by4 e) + (4294967296 - cur % 4294967296)) % 4294967296 = g at hl ⊢
      have ht : ¬ far (g / 65536 % 256) = true := by
        rw [Bool.not_eq_true]; exact far_false.2 (by clear he; omega)
      rw [if_neg ht]
      exact hl
  · have f := far_false.1 (f2 rfl)
    rw [← e2] at f
    rw [enc1_2]
    split
    · rename_i hf
      rw [far_iff] at hf
      obtain ⟨D, hD⟩ : ∃ D, (s + cur) % 4294967296 = D := ⟨_, rfl⟩
      obtain ⟨F, hF⟩ : ∃ F, fl 65536 D = F := ⟨_, rfl⟩
      have hm := fl_mod (K := 65536) (by decide) D
      rw [hD, hF] 
      rw [hF] at hm
      rw [hD] at hf
      obtain ⟨e, he⟩ : ∃ e, (F + cur) % 4294967296 = e := ⟨_, rfl⟩
      rw [he]
      have hl := sub_add he.symm (le_mod e)
      refine ⟨⟨by omega, fun _ => far_false.2 (by unfold by2; clear hl hF e1 e2 e3; omega), by omega⟩, bk ?_⟩
      rw [dec1_2]
      generalize (le (by1 e) (by2 e) (by3 e) (by4 e) + (4294967296 - cur % 4294967296)) % 4294967296 = g at hl ⊢
      have ht : far (g / 256 % 256) = true := far_iff.2 (by clear he hF hD e1 e2 e3; omega)
      rw [if_pos ht]
      exact inv (K := 65536) (q := 512) (by decide) rfl hl (by rw [hD]; exact hF.symm)
    · rename_i hf
      rw [Bool.not_eq_true, far_false] at hf
      obtain ⟨e, he⟩ : ∃ e, (s + cur) % 4294967296 = e := ⟨_, rfl⟩
      rw [he] at hf ⊢
      have hl := sub_add he.symm (le_mod e)
      refine ⟨⟨by omega, fun _ => far_false.2 (by unfold by2; omega), by omega⟩, bk ?_⟩
      rw [dec1_2]
      generalize (le (by1 e) (by2 e) (by3 e) (by4 e) + (4294967296 - cur % 4294967296)) % 4294967296 = g at hl ⊢
      have ht : ¬ far (g / 256 % 256) = true := by
        rw [Bool.not_eq_true]; exact far_false.2 (by clear he; omega)
      rw [if_neg ht]
      exact hl
  · have f := far_false.1 (f3 rfl)
    rw [← e1] at f
    rw [enc1_3]
    split
    · rename_i hf
      rw [far_iff] at hf
      obtain ⟨D, hD⟩ : ∃ D, (s + cur) % 4294967296 = D := ⟨_, rfl⟩
      obtain ⟨F, hF⟩ : ∃ F, fl 256 D = F := ⟨_, rfl⟩
      have hm := fl_mod (K := 256) (by decide) D
      rw [hD, hF] 
      rw [hF] at hm
      rw [hD] at hf
      obtain ⟨e, he⟩ : ∃ e, (F + cur) % 4294967296 = e := ⟨_, rfl⟩
      rw [he]
      have hl := sub_add he.symm (le_mod e)
      refine ⟨⟨by omega, by omega, fun _ => far_false.2 (by unfold by1; clear hl hF e1 e2 e3; omega)⟩, bk ?_⟩
      rw [dec1_3]
      generalize (le (by1 e) (by2 e) (by3 e) (by4 e) + (4294967296 - cur % 4294967296)) % 4294967296 = g at hl ⊢
      have ht : far (g % 256) = true := far_iff.2 (by clear he hF hD e1 e2 e3; omega)
      rw [if_pos ht]
      exact inv (K := 256) (q := 131072) (by decide) rfl hl (by rw [hD]; exact hF.symm)
    · rename_i hf
      rw [Bool.not_eq_true, far_false] at hf
      obtain ⟨e, he⟩ : ∃ e, (s + cur) % 4294967296 = e := ⟨_, rfl⟩
      rw [he] at hf ⊢
      have hl := sub_add he.symm (le_mod e)
      refine ⟨⟨by omega, by omega, fun _ => far_false.2 (by unfold by1; omega)⟩, bk ?_⟩
      rw [dec1_3]
      generalize (le (by1 e) (by2 e) (by3 e) (by4 e) + (4294967296 - cur % 4294967296)) % 4294967296 = g at hl ⊢
      have ht : ¬ far (g % 256) = true := by
        rw [Bool.not_eq_true]; exact far_false.2 (by clear he; omega)
      rw [if_neg ht]
      exact hl

/-- The filter over the bytes that are left, at a place, behind what stands ahead. -/
def enc : Nat → H → List Nat → List Nat
  | p, h, x0 :: x1 :: x2 :: x3 :: x4 :: r =>
    if op x0 then
      if far x4 && decide (h.n < 4) then
        let e := enc1 (p + 5) h.n (le x1 x2 x3 x4)
        x0 :: by1 e :: by2 e :: by3 e :: by4 e :: enc (p + 5) H.none r
      else x0 :: enc (p + 1) (h.next (some (far x4))) (x1 :: x2 :: x3 :: x4 :: r)
    else x0 :: enc (p + 1) (h.next .none) (x1 :: x2 :: x3 :: x4 :: r)
  | _, _, l => l
termination_by _ _ l => l.length
/-- Which byte is looked at for a mask. -/
def look (m x1 x2 x3 : Nat) : Nat := if m < 2 then x1 else if m < 4 then x2 else x3
def skip (m x1 x2 x3 : Nat) : Bool := decide (m ≠ 0) && (decide (4 < m) || decide (m = 3) || far (look m x1 x2 x3))
/-- Which place a mask tells. -/
def mn (m : Nat) : Nat := if m = 4 then 1 else if m = 2 then 2 else if m = 1 then 3 else 0
def dec : Nat → Nat → List Nat → List Nat
  | p, m, x0 :: x1 :: x2 :: x3 :: x4 :: r =>
    if op x0 then
      if skip m x1 x2 x3 then x0 :: dec (p + 1) (m / 2 + 4) (x1 :: x2 :: x3 :: x4 :: r)
      else if far x4 then
        let v := dec1 (p + 5) (mn m) (le x1 x2 x3 x4)
        x0 :: by1 v :: by2 v :: by3 v :: by4 v :: dec (p + 5) 0 r
      else x0 :: dec (p + 1) (m / 2 + 4) (x1 :: x2 :: x3 :: x4 :: r)
    else x0 :: dec (p + 1) (m / 2) (x1 :: x2 :: x3 :: x4 :: r)
  | _, _, l => l
termination_by _ _ l => l.length
theorem enc_short {p : Nat} {h : H} {l : List Nat} (hl : l.length < 5) : enc p h l = l := by
  rcases l with _ | ⟨a, _ | ⟨b, _ | ⟨c, _ | ⟨d, _ | ⟨e, r⟩⟩⟩⟩⟩ <;> first | (unfold enc; rfl) | (simp at hl; omega)
theorem dec_short {p m : Nat} {l : List Nat} (hl : l.length < 5) : dec p m l = l := by
  rcases l with _ | ⟨a, _ | ⟨b, _ | ⟨c, _ | ⟨d, _ | ⟨e, r⟩⟩⟩⟩⟩ <;> first | (unfold dec; rfl) | (simp at hl; omega)
theorem enc_len : ∀ (k p : Nat) (h : H) (l : List Nat), l.length ≤ k → (enc p h l).length = l.length := by
  intro k
  induction k with
  | zero => intro p h l hl; rw [enc_short (by omega)]
  | succ k ih =>
    intro p h l hl
    rcases l with _ | ⟨x0, _ | ⟨x1, _ | ⟨x2, _ | ⟨x3, _ | ⟨x4, r⟩⟩⟩⟩⟩
    · rw [enc_short (by simp)]
    · rw [enc_short (by simp)]
    · rw [enc_short (by simp)]
    · rw [enc_short (by simp)]
    · rw [enc_short (by simp)]
    simp only [List.length_cons] at hl
    unfold enc
    split
    · split
      · simp only [List.length_cons]; rw [ih _ _ _ (by omega)]
      · rw [List.length_cons, ih _ _ _ (by simp only [List.length_cons]; omega)]; rfl
    · rw [List.length_cons, ih _ _ _ (by simp only [List.length_cons]; omega)]; rfl
/-- What is known of those ahead. -/
structure H.Ok (h : H) (l : List Nat) : Prop where
  a : ∀ f, h.a = some f → ∀ x, l[3]? = some x → far x = f
  b : ∀ f, h.b = some f → ∀ x, l[2]? = some x → far x = f
  c : ∀ f, h.c = some f → ∀ x, l[1]? = some x → far x = f
theorem H.none_ok (l : List Nat) : H.none.Ok l := ⟨fun _ h => by simp [H.none] at h, fun _ h => by simp [H.none] at h, fun _ h => by simp [H.none] at h⟩
theorem H.Ok.next {h : H} {x0 x1 x2 x3 x4 : Nat} {r : List Nat} (k : h.Ok (x0 :: x1 :: x2 :: x3 :: x4 :: r)) (x : Option Bool) (hx : ∀ f, x = some f → far x4 = f) : (h.next x).Ok (x1 :: x2 :: x3 :: x4 :: r) :=
  ⟨fun f e y hy => by
    have : y = x4 := by simpa using hy.symm
    subst this; exact hx f e, fun f e y hy => k.a f e y (by simpa using hy), fun f e y hy => k.b f e y (by simpa using hy)⟩
theorem enc_head (p : Nat) (h : H) (l : List Nat) : (enc p h l)[0]? = l[0]? := by
  unfold enc
  split
  · split
    · split <;> rfl
    · rfl
  · rfl
theorem hn3 {h : H} (hn : h.n < 4) : (∀ f, h.a = some f → f = false ∧ h.n = 1) ∧ (∀ f, h.b = some f → f = false ∧ h.n = 2) ∧ (∀ f, h.c = some f → f = false ∧ h.n = 3) := by
  rcases h with ⟨_ | _ | _, _ | _ | _, _ | _ | _⟩ <;> simp [H.n] at hn ⊢
theorem hn_of {h : H} (l : List Nat) (k : h.Ok l) {x1 x2 x3 : Nat} (h1 : l[1]? = some x1) (h2 : l[2]? = some x2) (h3 : l[3]? = some x3) (_hn : h.n < 4) : (h.n = 1 → far x3 = false) ∧ (h.n = 2 → far x2 = false) ∧ (h.n = 3 → far x1 = false) := by
  refine ⟨fun e => ?_, fun e => ?_, fun e => ?_⟩
  · refine k.a false ?_ _ h3
    rcases h with ⟨_ | _ | _, _ | _ | _, _ | _ | _⟩ <;> simp [H.n] at e ⊢
  · refine k.b false ?_ _ h2
    rcases h with ⟨_ | _ | _, _ | _ | _, _ | _ | _⟩ <;> simp [H.n] at e ⊢
  · refine k.c false ?_ _ h1
    rcases h with ⟨_ | _ | _, _ | _ | _, _ | _ | _⟩ <;> simp [H.n] at e ⊢
def Byte (l : List Nat) : Prop := ∀ x ∈ l, x < 256
/-- What was far stays far, what was not stays not. -/
theorem enc_far : ∀ (k p : Nat) (h : H) (l : List Nat), l.length ≤ k → Byte l → h.Ok l → h.Ok (enc p h l) := by
  intro k
  induction k with
  | zero => intro p h l hl _ hk; rw [enc_short (by omega)]; exact hk
  | succ k ih =>
    intro p h l hl hb hk
    rcases l with _ | ⟨x0, _ | ⟨x1, _ | ⟨x2, _ | ⟨x3, _ | ⟨x4, r⟩⟩⟩⟩⟩
    · rw [enc_short (by simp)]; exact hk
    · rw [enc_short (by simp)]; exact hk
    · rw [enc_short (by simp)]; exact hk
    · rw [enc_short (by simp)]; exact hk
    · rw [enc_short (by simp)]; exact hk
    simp only [List.length_cons] at hl
    have hb1 : Byte (x1 :: x2 :: x3 :: x4 :: r) := fun x hx => hb x (List.mem_cons_of_mem _ hx)
    have tail : ∀ (x : Option Bool), (∀ f, x = some f → far x4 = f) → h.Ok (x0 :: enc (p + 1) (h.next x) (x1 :: x2 :: x3 :: x4 :: r)) := fun x hx => by
      have := ih (p + 1) (h.next x) (x1 :: x2 :: x3 :: x4 :: r) (by simp only [List.length_cons]; omega) hb1 (hk.next x hx)
      refine ⟨fun f e y hy => this.b f e y (by simpa using hy), fun f e y hy => this.c f e y (by simpa using hy), fun f e y hy => ?_⟩
      have hy' : (enc (p + 1) (h.next x) (x1 :: x2 :: x3 :: x4 :: r))[0]? = some y := by simpa using hy
      rw [enc_head] at hy'
      exact hk.c f e y (by simpa using hy')
    unfold enc
    split
    · split
      · rename_i ho hc
        simp only [Bool.and_eq_true, decide_eq_true_eq] at hc
        obtain ⟨n1, n2, n3⟩ := hn_of _ hk (by rfl) (by rfl) (by rfl) hc.2
        have g := good (cur := p + 5) (hb x1 (by simp)) (hb x2 (by simp)) (hb x3 (by simp)) (far_iff.1 hc.1) hc.2 n1 n2 n3
        obtain ⟨m1, m2, m3⟩ := hn3 hc.2
        refine ⟨fun f e y hy => ?_, fun f e y hy => ?_, fun f e y hy => ?_⟩
        · obtain ⟨rfl, q⟩ := m1 f e
          have : y = by3 _ := (Option.some.inj hy).symm
          subst this; exact g.near.1 q
        · obtain ⟨rfl, q⟩ := m2 f e
          have : y = by2 _ := (Option.some.inj hy).symm
          subst this; exact g.near.2.1 q
        · obtain ⟨rfl, q⟩ := m3 f e
          have : y = by1 _ := (Option.some.inj hy).symm
          subst this; exact g.near.2.2 q
      · exact tail _ fun f e => Option.some.inj e
    · exact tail _ fun f e => by simp at e
theorem md_next (h : H) (x : Option Bool) : (h.next x).md = h.md / 2 + (if x.isSome then 4 else 0) := by
  rcases h with ⟨_ | a, _ | b, _ | c⟩ <;> rcases x with _ | x <;> simp [H.next, H.md]
theorem mn_md {h : H} (hn : h.n < 4) : mn h.md = h.n := by
  rcases h with ⟨_ | _ | _, _ | _ | _, _ | _ | _⟩ <;> first | rfl | (simp [H.n] at hn)
theorem skip_no {h : H} {l : List Nat} (k : h.Ok l) {x1 x2 x3 : Nat} (h1 : l[1]? = some x1) (h2 : l[2]? = some x2) (h3 : l[3]? = some x3) (hn : h.n < 4) : skip h.md x1 x2 x3 = false := by
  obtain ⟨n1, n2, n3⟩ := hn_of l k h1 h2 h3 hn
  rcases h with ⟨_ | _ | _, _ | _ | _, _ | _ | _⟩ <;> first | rfl | (simp [H.n] at hn; done) | (simp [skip, H.md, look]; first | exact n1 rfl | exact n2 rfl | exact n3 rfl)
theorem skip_yes {h : H} {l : List Nat} (k : h.Ok l) {x1 x2 x3 : Nat} (h1 : l[1]? = some x1) (h2 : l[2]? = some x2) (h3 : l[3]? = some x3) (hn : ¬ h.n < 4) : skip h.md x1 x2 x3 = true := by
  have a := k.a; have b := k.b; have c := k.c
  rcases h with ⟨_ | _ | _, _ | _ | _, _ | _ | _⟩ <;> first | (simp [H.n] at hn; done) | (simp [skip, H.md, look]; done) | (simp [skip, H.md, look]; first | exact a true rfl _ h3 | exact b true rfl _ h2 | exact c true rfl _ h1)
/-- The filter is undone. -/
theorem dec_enc : ∀ (k p : Nat) (h : H) (l : List Nat), l.length ≤ k → Byte l → h.Ok l → dec p h.md (enc p h l) = l := by
  intro k
  induction k with
  | zero => intro p h l hl _ hk; rw [enc_short (by omega), dec_short (by omega)]
  | succ k ih =>
    intro p h l hl hb hk
    have hf := enc_far (k + 1) p h l hl hb hk
    rcases l with _ | ⟨x0, _ | ⟨x1, _ | ⟨x2, _ | ⟨x3, _ | ⟨x4, r⟩⟩⟩⟩⟩
    · rw [enc_short (by simp), dec_short (by simp)]
    · rw [enc_short (by simp), dec_short (by simp)]
    · rw [enc_short (by simp), dec_short (by simp)]
    · rw [enc_short (by simp), dec_short (by simp)]
    · rw [enc_short (by simp), dec_short (by simp)]
    simp only [List.length_cons] at hl
    have hb1 : Byte (x1 :: x2 :: x3 :: x4 :: r) := fun x hx => hb x (List.mem_cons_of_mem _ hx)
    have tail : ∀ (x : Option Bool), (∀ f, x = some f → far x4 = f) → x.isSome = op x0 →
        (enc p h (x0 :: x1 :: x2 :: x3 :: x4 :: r) = x0 :: enc (p + 1) (h.next x) (x1 :: x2 :: x3 :: x4 :: r)) → (x.isSome = true → far x4 = true → ¬ h.n < 4) →
        dec p h.md (enc p h (x0 :: x1 :: x2 :: x3 :: x4 :: r)) = x0 :: x1 :: x2 :: x3 :: x4 :: r := by
      intro x hx ho he hn
      have i1 := ih (p + 1) (h.next x) (x1 :: x2 :: x3 :: x4 :: r) (by simp only [List.length_cons]; omega) hb1 (hk.next x hx)
      have i2 := enc_far (k + 1) (p + 1) (h.next x) (x1 :: x2 :: x3 :: x4 :: r) (by simp only [List.length_cons]; omega) hb1 (hk.next x hx)
      rw [he] at hf ⊢
      have hlen : (enc (p + 1) (h.next x) (x1 :: x2 :: x3 :: x4 :: r)).length = r.length + 4 := by rw [enc_len _ _ _ _ (Nat.le_refl _)]; rfl
      rw [md_next] at i1
      generalize enc (p + 1) (h.next x) (x1 :: x2 :: x3 :: x4 :: r) = y at *
      rcases y with _ | ⟨y1, _ | ⟨y2, _ | ⟨y3, _ | ⟨y4, r'⟩⟩⟩⟩
      · simp at hlen
      · simp at hlen
      · simp at hlen
      · simp at hlen
      unfold dec
      rcases hxo : x with _ | f
      · rw [hxo] at ho i1
        rw [if_neg (by rw [← ho]; decide)]
        simp only [Option.isSome_none, Bool.false_eq_true, if_false, Nat.add_zero] at i1
        rw [i1]
      · rw [hxo] at ho i1
        rw [if_pos (show op x0 = true from ho.symm)]
        simp only [Option.isSome_some, if_true] at i1
        split
        · rw [i1]
        · rename_i hs
          have f4 : far y4 = f := i2.a f (by rw [hxo]; rfl) y4 rfl
          have f0 := hx f hxo
          cases f
          · rw [if_neg (by rw [f4]; decide), i1]
          · exfalso
            exact hs (skip_yes hf (by rfl) (by rfl) (by rfl) (hn (by rw [hxo]; rfl) f0))
    by_cases ho : op x0 = true
    · by_cases hc : (far x4 && decide (h.n < 4)) = true
      · simp only [Bool.and_eq_true, decide_eq_true_eq] at hc
        obtain ⟨n1, n2, n3⟩ := hn_of _ hk (by rfl) (by rfl) (by rfl) hc.2
        have g := good (cur := p + 5) (hb x1 (by simp)) (hb x2 (by simp)) (hb x3 (by simp)) (far_iff.1 hc.1) hc.2 n1 n2 n3
        have hr : Byte r := fun x hx => hb x (by simp [hx])
        have i1 := ih (p + 5) H.none r (by omega) hr (H.none_ok r)
        have he : enc p h (x0 :: x1 :: x2 :: x3 :: x4 :: r) = x0 :: by1 (enc1 (p + 5) h.n (le x1 x2 x3 x4)) :: by2 (enc1 (p + 5) h.n (le x1 x2 x3 x4)) :: by3 (enc1 (p + 5) h.n (le x1 x2 x3 x4)) :: by4 (enc1 (p + 5) h.n (le x1 x2 x3 x4)) :: enc (p + 5) H.none r := by
          rw [enc]; rw [if_pos ho, if_pos (by simp [hc.1, hc.2])]
        rw [he] at hf ⊢
        have gb := g.back
        generalize enc1 (p + 5) h.n (le x1 x2 x3 x4) = e at *
        unfold dec
        have hs := skip_no hf (by rfl) (by rfl) (by rfl) hc.2
        have h4 : far (by4 e) = true := by unfold by4; split <;> decide
        rw [if_pos ho, if_neg (by rw [hs]; decide), if_pos h4, mn_md hc.2]
        dsimp only at gb ⊢
        rw [gb.1, gb.2.1, gb.2.2.1, gb.2.2.2]
        have : H.none.md = 0 := rfl
        rw [this] at i1
        rw [i1]
      · refine tail (some (far x4)) (fun f e => Option.some.inj e) (by rw [ho]; rfl) ?_ fun _ h4 hn => hc (by simp [h4, hn])
        rw [enc]; rw [if_pos ho, if_neg hc]
    · refine tail .none (fun f e => by simp at e) (by simp at ho; rw [ho]; rfl) ?_ fun h => by simp at h
      rw [enc]; rw [if_neg ho]
end Go.Proofs.YtfpepghmbeoanaaGreatDoor.Bx
end

section
namespace Go.Proofs.YtfpepghmbeoanaaGreatDoor.Bx
abbrev W4 := Nat × Nat × Nat × Nat
def be (x : W4) : Nat := 16777216 * x.1 + 65536 * x.2.1 + 256 * x.2.2.1 + x.2.2.2
def un (w : Nat) : W4 := (w / 16777216 % 256, w / 65536 % 256, w / 256 % 256, w % 256)
def ppcIf (x : W4) : Bool := decide (x.1 / 4 = 18) && decide (x.2.2.2 % 4 = 1)
def ppcE (p : Nat) (x : W4) : W4 := if ppcIf x then un (1207959552 + (be x % 67108864 / 4 * 4 + p) % 67108864 / 4 * 4 + 1) else x
def ppcD (p : Nat) (x : W4) : W4 := if ppcIf x then un (1207959552 + (be x + (4294967296 - p % 4294967296)) % 67108864) else x
def armIf (x : W4) : Bool := decide (x.2.2.2 = 235)
def le3 (x : W4) : Nat := x.1 + 256 * x.2.1 + 65536 * x.2.2.1
def un3 (d b : Nat) : W4 := (d % 256, d / 256 % 256, d / 65536 % 256, b)
def armE (p : Nat) (x : W4) : W4 := if armIf x then un3 (le3 x + (p + 8) / 4) 235 else x
def armD (p : Nat) (x : W4) : W4 := if armIf x then un3 (le3 x + (4294967296 - (p + 8) / 4 % 4294967296)) 235 else x
def spIf (x : W4) : Bool := (decide (x.1 = 64) && decide (x.2.1 < 64)) || (decide (x.1 = 127) && decide (192 ≤ x.2.1))
def spT (t : Nat) : W4 := un ((if t / 4194304 % 2 = 1 then 2143289344 else 1073741824) + t % 4194304)
def spE (p : Nat) (x : W4) : W4 := if spIf x then spT (be x + p / 4) else x
def spD (p : Nat) (x : W4) : W4 := if spIf x then spT (be x + (4294967296 - p / 4 % 4294967296)) else x
def wmap (f : Nat → W4 → W4) : Nat → List Nat → List Nat
  | p, x0 :: x1 :: x2 :: x3 :: r => let y := f p (x0, x1, x2, x3); y.1 :: y.2.1 :: y.2.2.1 :: y.2.2.2 :: wmap f (p + 4) r
  | _, l => l
def B4 (x : W4) : Prop := x.1 < 256 ∧ x.2.1 < 256 ∧ x.2.2.1 < 256 ∧ x.2.2.2 < 256
theorem ppc_inv {p : Nat} {x : W4} (hx : B4 x) (hp : p % 4 = 0) : ppcD p (ppcE p x) = x := by
  obtain ⟨x0, x1, x2, x3⟩ := x
  obtain ⟨h0, h1, h2, h3⟩ := hx
  dsimp only at h0 h1 h2 h3
  by_cases hc : ppcIf (x0, x1, x2, x3) = true
  · have hc' := hc
    unfold ppcIf at hc'
    simp only [Bool.and_eq_true, decide_eq_true_eq] at hc'
    obtain ⟨c1, c2⟩ := hc'
    unfold ppcE
    rw [if_pos hc]
    obtain ⟨a, ha⟩ : ∃ a, be (x0, x1, x2, x3) % 67108864 / 4 = a := ⟨_, rfl⟩
    have hb : be (x0, x1, x2, x3) = 1207959552 + a * 4 + 1 := by unfold be at ha ⊢; dsimp only at ha ⊢; omega
    rw [ha]
    obtain ⟨q, hq⟩ : ∃ q, (a * 4 + p) % 67108864 / 4 = q := ⟨_, rfl⟩
    rw [hq]
    have hu : be (un (1207959552 + q * 4 + 1)) = 1207959552 + q * 4 + 1 := by unfold be un; dsimp only; clear hb ha; omega
    have hi : ppcIf (un (1207959552 + q * 4 + 1)) = true := by
      unfold ppcIf un
      simp only [Bool.and_eq_true, decide_eq_true_eq]
      constructor <;> (clear hb ha; omega)
    unfold ppcD
    rw [if_pos hi, hu]
    have e : 1207959552 + (1207959552 + q * 4 + 1 + (4294967296 - p % 4294967296)) % 67108864 = be (x0, x1, x2, x3) := by
      rw [hb]; have : a < 16777216 := by rw [← ha]; omega
      clear hb ha hu; omega
    rw [e]
    unfold un be
    dsimp only
    clear hu e hb ha hq
    refine Prod.ext (by dsimp only; omega) (Prod.ext (by dsimp only; omega) (Prod.ext (by dsimp only; omega) (by dsimp only; omega)))
  · unfold ppcE
    rw [if_neg hc]
    unfold ppcD
    rw [if_neg hc]
theorem arm_inv {p : Nat} {x : W4} (hx : B4 x) : armD p (armE p x) = x := by
  obtain ⟨x0, x1, x2, x3⟩ := x
  obtain ⟨h0, h1, h2, h3⟩ := hx
  dsimp only at h0 h1 h2 h3
  by_cases hc : armIf (x0, x1, x2, x3) = true
  · have c1 : x3 = 235 := by simpa [armIf] using hc
    unfold armE
    rw [if_pos hc]
    obtain ⟨d, hd⟩ : ∃ d, le3 (x0, x1, x2, x3) + (p + 8) / 4 = d := ⟨_, rfl⟩
    rw [hd]
    unfold armD
    have hi : armIf (un3 d 235) = true := rfl
    rw [if_pos hi]
    have e : (le3 (un3 d 235) + (4294967296 - (p + 8) / 4 % 4294967296)) % 16777216 = le3 (x0, x1, x2, x3) % 16777216 := by
      have : le3 (un3 d 235) % 16777216 = d % 16777216 := by unfold le3 un3; dsimp only; omega
      generalize le3 (un3 d 235) = g at this ⊢
      omega
    generalize le3 (un3 d 235) + (4294967296 - (p + 8) / 4 % 4294967296) = g at e
    unfold le3 at e
    unfold un3
    dsimp only at e
    clear hd
    refine Prod.ext (by dsimp only; omega) (Prod.ext (by dsimp only; omega) (Prod.ext (by dsimp only; omega) c1.symm))
  · unfold armE
    rw [if_neg hc]
    unfold armD
    rw [if_neg hc]
theorem spT_cong {a b : Nat} (h : a % 8388608 = b % 8388608) : spT a = spT b := by
  unfold spT
  have h1 : a / 4194304 % 2 = b / 4194304 % 2 := by omega
  have h2 : a % 4194304 = b % 4194304 := by omega
  rw [h1, h2]
theorem sp_inv {p : Nat} {x : W4} (hx : B4 x) : spD p (spE p x) = x := by
  obtain ⟨x0, x1, x2, x3⟩ := x
  obtain ⟨h0, h1, h2, h3⟩ := hx
  dsimp only at h0 h1 h2 h3
  by_cases hc : spIf (x0, x1, x2, x3) = true
  · have hc' := hc
    unfold spIf at hc'
    simp only [Bool.and_eq_true, Bool.or_eq_true, decide_eq_true_eq] at hc'
    unfold spE
    rw [if_pos hc]
    obtain ⟨d, hd⟩ : ∃ d, be (x0, x1, x2, x3) + p / 4 = d := ⟨_, rfl⟩
    rw [hd]
    have hi : spIf (spT d) = true := by
      unfold spIf spT un
      simp only [Bool.and_eq_true, Bool.or_eq_true, decide_eq_true_eq]
      clear hd
      split
      · right; omega
      · left; omega
    have hg : be (spT d) % 8388608 = d % 8388608 := by
      unfold spT un be
      clear hd
      dsimp only
      split <;> omega
    unfold spD
    rw [if_pos hi]
    have e : (be (spT d) + (4294967296 - p / 4 % 4294967296)) % 8388608 = be (x0, x1, x2, x3) % 8388608 := by
      generalize be (spT d) = g at hg ⊢
      omega
    rw [spT_cong e]
    clear e hg hi hd hc
    unfold spT be un
    dsimp only
    rcases hc' with ⟨c1, c2⟩ | ⟨c1, c2⟩
    · rw [if_neg (by omega)]
      refine Prod.ext (by dsimp only; omega) (Prod.ext (by dsimp only; omega) (Prod.ext (by dsimp only; omega) (by dsimp only; omega)))
    · rw [if_pos (by omega)]
      refine Prod.ext (by dsimp only; omega) (Prod.ext (by dsimp only; omega) (Prod.ext (by dsimp only; omega) (by dsimp only; omega)))
  · unfold spE
    rw [if_neg hc]
    unfold spD
    rw [if_neg hc]
theorem wmap_inv {f g : Nat → W4 → W4} (h : ∀ p x, p % 4 = 0 → B4 x → g p (f p x) = x) : ∀ (k p : Nat) (l : List Nat), l.length ≤ k → p % 4 = 0 → Byte l → wmap g p (wmap f p l) = l := by
  intro k
  induction k with
  | zero => intro p l hl _ _; rcases l with _ | ⟨a, l⟩; rfl; simp at hl
  | succ k ih =>
    intro p l hl hp hb
    rcases l with _ | ⟨x0, _ | ⟨x1, _ | ⟨x2, _ | ⟨x3, r⟩⟩⟩⟩
    · rfl
    · rfl
    · rfl
    · rfl
    simp only [List.length_cons] at hl
    have i1 := ih (p + 4) r (by omega) (by omega) (fun x hx => hb x (by simp [hx]))
    have i2 := h p (x0, x1, x2, x3) hp ⟨hb x0 (by simp), hb x1 (by simp), hb x2 (by simp), hb x3 (by simp)⟩
    simp only [wmap]
    rw [i1, show ((f p (x0, x1, x2, x3)).1, (f p (x0, x1, x2, x3)).2.1, (f p (x0, x1, x2, x3)).2.2.1, (f p (x0, x1, x2, x3)).2.2.2) = f p (x0, x1, x2, x3) from rfl, i2]
end Go.Proofs.YtfpepghmbeoanaaGreatDoor.Bx
end
