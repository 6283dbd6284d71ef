/-
FnLzma: for every text of 1 to 3000 bytes and every way, the bytes that the reference packs by LZMA are unpacked by the program to the same bytes; other texts are not asked about. The card of the row, tied to the program's text. Conditions: none beyond the given statement's own.
-/
import Derived.Test.YtfpepghmbeoanaaGreatDoorP16
import Derived.Test.YtfpepghmbeoanaaGreatDoorP20
import Derived.Test.YtfpepghmbeoanaaGreatDoorTie
import Derived.Test.YtfpepghmbeoanaaGreatDoorCards
import Derived.SevenTiedAt
set_option linter.unusedSimpArgs false
set_option linter.unusedVariables false
open Go Go.RowKit
set_option linter.unusedSimpArgs false
set_option linter.unusedVariables false
namespace Go.Proofs.YtfpepghmbeoanaaGreatDoor
open Go.ChangeShapes Go.WideShapes
theorem fnLzma_named : Tryz.prog.funcNamed Rows.fnLzmaRow.func = some 3 := by kernel_rfl
theorem fnLzma_inst : Tryz.f3.isInstance Tryz.prog Rows.fnLzmaRow.origin Rows.fnLzmaRow.targs := of_decide_eq_true (by kernel_rfl)
theorem fnLzma_wrap : Tryz.f3.isWrapper Tryz.prog Rows.fnLzmaRow.wrapper Rows.fnLzmaRow.mainSum := by unfold Func.isWrapper; rw [if_neg (of_decide_eq_false (by kernel_rfl))]; exact ⟨rfl, rfl⟩
theorem fnLzma_laidH (w : World) : laidMetH Tryz.prog Rows.fnLzmaRow.laid w = laidMet Tryz.prog Rows.fnLzmaRow.laid w := by
  unfold laidMetH
  rw [show (Rows.fnLzmaRow.laid.filter fun x => x.2.handleName?.isSome) = [] by kernel_rfl]
set_option maxRecDepth 100000 in
theorem fnLzma_open (os : Os) (started : os.Started) (H : Type) (enc : TypeId × Value → H) :
    ReturnsInHanded Rows.fnLzmaRow.assume Tryz.pinned.checked os 3 .any (Rows.fnLzmaRow.pre enc Tryz.pinned.checked.prog Tryz.f3 (OpenSpec.ofChange Rows.fnLzmaSpec)) (Rows.fnLzmaSpec.post enc Tryz.pinned.checked.prog Tryz.f3 Rows.fnLzmaRow.apart Rows.fnLzmaRow.fresh Rows.fnLzmaRow.handsOn Rows.fnLzmaRow.again) := by
  have h := fnLzma_lifted os started H enc
  have e : Rows.fnLzmaRow.pre enc Tryz.prog Tryz.f3 (OpenSpec.ofChange Rows.fnLzmaSpec) = fun w args => (Rows.fnLzmaSpec.pre enc Tryz.prog Tryz.f3 [] false w args ∧ laidMet Tryz.prog Rows.fnLzmaRow.laid w) ∧ sizedMet enc Tryz.prog Tryz.f3 (OpenSpec.ofChange Rows.fnLzmaSpec) false w args := by
    funext w args
    rw [← fnLzma_laidH w]
    rfl
  show ReturnsInHanded {} Tryz.checked os 3 .any (Rows.fnLzmaRow.pre enc Tryz.prog Tryz.f3 (OpenSpec.ofChange Rows.fnLzmaSpec)) (Rows.fnLzmaSpec.post enc Tryz.prog Tryz.f3 false true false false)
  rw [e]
  exact h
set_option maxRecDepth 100000 in
theorem fnLzma_holds : Rows.FnLzmaSaid :=
  OpenClaim.holds_of_wide 3 Tryz.f3 rfl rfl rfl rfl rfl rfl rfl ⟨rfl, rfl, rfl, rfl, rfl⟩ rfl rfl rfl rfl rfl fnLzma_named Tryz.func3 fnLzma_closed
    fnLzma_inst fnLzma_wrap (fun os started H enc _ => fnLzma_open os started H enc)
set_option maxRecDepth 100000 in
theorem fnLzma_card : Rows.FnLzmaCardSaid :=
  Claim7.holds_tied_plain_at .later [] [.data, .data, .data, .sentinel, .sentinel, .sentinel, .sentinel, .sentinel, .sentinel, .sentinel, .sentinel, .sentinel, .sentinel, .sentinel, .sentinel, .sentinel, .sentinel, .sentinel, .sentinel, .sentinel] true (true, "676a4a4195a3e117174874cc6c84ea2e4bd974075cecc811ca7e0750561db798") true
    fnLzma_holds (fun _ h => by cases h) (by kernel_rfl) (fun _ h => by cases h) fnLzma_row_tie rfl ⟨rfl, rfl⟩ (by kernel_rfl) rfl
    (fun f fn hf hfn => by
      obtain rfl : f = 3 := Option.some.inj ((show Tryz.prog.funcNamed "loop.example/pub-g03247/laws.FnLzma" = some 3 by kernel_rfl).symm.trans hf) |>.symm
      obtain rfl : fn = Tryz.f3 := (Option.some.inj (Tryz.func3.symm.trans hfn)).symm
      exact ⟨by kernel_rfl, fun j t ht => by
        rw [fnLzma_params] at ht
        rcases j with _ | _ | j
        · obtain rfl : t = 22 := by simpa using ht.symm
          exact (show Tryz.prog.wantsStandIn 22 = false by kernel_rfl)
        · obtain rfl : t = 24 := by simpa using ht.symm
          exact (show Tryz.prog.wantsStandIn 24 = false by kernel_rfl)
        · simp at ht⟩)
    (by kernel_rfl)
#print axioms fnLzma_card
end Go.Proofs.YtfpepghmbeoanaaGreatDoor
