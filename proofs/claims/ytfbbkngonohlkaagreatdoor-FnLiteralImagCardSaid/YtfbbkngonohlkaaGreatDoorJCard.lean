/- Joined texts: RowL, CardI. -/
import Derived.Test.YtfbbkngonohlkaaGreatDoorJRowJ
import Derived.Test.YtfbbkngonohlkaaGreatDoorJRowI
import Derived.Test.YtfbbkngonohlkaaGreatDoorTie
import Derived.Test.YtfbbkngonohlkaaGreatDoorCards
import Derived.SevenTiedAt
/- The row of the imaginary literals holds. -/
namespace Go.Proofs.YtfbbkngonohlkaaGreatDoor
open Go Go.ChangeShapes Go.WideShapes Go.ChangeAt Go.RowKit
theorem imag_facts : joinedFacts Tryz.prog 4 Tryz.f4 Rows.fnLiteralImagSpec Rows.fnLiteralImagRow = true := by
  unfold joinedFacts
  rw [imag_fact1, imag_fact2, imag_fact3, imag_fact4, imag_fact5, imag_fact6, imag_fact7, imag_fact8, imag_fact9, imag_fact10, imag_fact11, imag_fact12, imag_fact13, imag_fact14, imag_fact15, imag_fact16, imag_fact17, imag_fact18, imag_fact19, imag_fact20, imag_fact21, imag_fact22, imag_fact23, imag_fact24, imag_fact25, imag_fact26, imag_fact27, imag_fact28, imag_fact30, imag_fact31, imag_fact32]
  simp only [Bool.true_and, Bool.and_true]
  kernel_rfl
theorem imag_holds : Rows.FnLiteralImagSaid :=
  OpenClaim.holds_of_wide 4 Tryz.f4 rfl rfl rfl rfl rfl rfl rfl ⟨rfl, rfl, rfl, rfl, rfl⟩ rfl rfl rfl rfl rfl (by kernel_rfl) Tryz.func4 imag_facts imag_instance imag_wrapper
    (fun os started H enc _ => imag_lifted os started H enc)
#print axioms imag_holds
end Go.Proofs.YtfbbkngonohlkaaGreatDoor
/- The tied card of the imaginary literals. -/
namespace Go.Proofs.YtfbbkngonohlkaaGreatDoor
open Go
theorem imag_card : Rows.FnLiteralImagCardSaid :=
  Claim7.holds_tied_plain_at .later [] [.data, .data, .data, .data, .sentinel, .sentinel, .sentinel, .data, .sentinel, .sentinel, .data, .data, .data, .data, .pinned] true (true, "9bd208ad0ba465942f91f4d3933930092dc1c8c0c20362e61b55920ecead1fdd") true
    imag_holds (fun _ h => by cases h) (by kernel_rfl) (fun _ h => by cases h) fnLiteralImag_row_tie rfl ⟨rfl, rfl⟩ (by kernel_rfl) rfl
    (fun f fn hf hfn => by
      obtain rfl : f = 4 := Option.some.inj ((show Tryz.prog.funcNamed "loop.example/pub-g03237/laws.FnLiteralImag" = some 4 by kernel_rfl).symm.trans hf) |>.symm
      obtain rfl : fn = Tryz.f4 := (Option.some.inj (Tryz.func4.symm.trans hfn)).symm
      exact ⟨by kernel_rfl, fun j t ht => by
        rw [Tryz.params4] at ht
        have hm : t ∈ [22, 5, 5] := by simpa using Array.mem_of_getElem? ht
        have hall : ([22, 5, 5].all fun u => !Tryz.prog.wantsStandIn u) = true := by kernel_rfl
        exact (show Tryz.prog.wantsStandIn t = false by simpa using List.all_eq_true.1 hall t hm)⟩)
    (by kernel_rfl)
#print axioms imag_card
end Go.Proofs.YtfbbkngonohlkaaGreatDoor
