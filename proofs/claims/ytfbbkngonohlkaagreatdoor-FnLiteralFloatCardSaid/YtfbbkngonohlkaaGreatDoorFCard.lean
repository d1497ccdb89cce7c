/- Joined texts: RowFL, CardF. -/
import Derived.Test.YtfbbkngonohlkaaGreatDoorRowFJ
import Derived.Test.YtfbbkngonohlkaaGreatDoorFRow
import Derived.Test.YtfbbkngonohlkaaGreatDoorTie
import Derived.Test.YtfbbkngonohlkaaGreatDoorCards
import Derived.SevenTiedAt
/- The row of the decimal literals holds. -/
namespace Go.Proofs.YtfbbkngonohlkaaGreatDoor
open Go Go.ChangeShapes Go.WideShapes Go.ChangeAt Go.RowKit
theorem float_facts : joinedFacts Tryz.prog 3 Tryz.f3 Rows.fnLiteralFloatSpec Rows.fnLiteralFloatRow = true := by
  unfold joinedFacts
  rw [float_fact1, float_fact2, float_fact3, float_fact4, float_fact5, float_fact6, float_fact7, float_fact8, float_fact9, float_fact10, float_fact11, float_fact12, float_fact13, float_fact14, float_fact15, float_fact16, float_fact17, float_fact18, float_fact19, float_fact20, float_fact21, float_fact22, float_fact23, float_fact24, float_fact25, float_fact26, float_fact27, float_fact28, float_fact30, float_fact31, float_fact32]
  simp only [Bool.true_and, Bool.and_true]
  kernel_rfl
theorem float_holds : Rows.FnLiteralFloatSaid :=
  OpenClaim.holds_of_wide 3 Tryz.f3 rfl rfl rfl rfl rfl rfl rfl ⟨rfl, rfl, rfl, rfl, rfl⟩ rfl rfl rfl rfl rfl (by kernel_rfl) Tryz.func3 float_facts float_instance float_wrapper
    (fun os started H enc _ => float_lifted os started H enc)
#print axioms float_holds
end Go.Proofs.YtfbbkngonohlkaaGreatDoor
/- The tied card of the decimal literals. -/
namespace Go.Proofs.YtfbbkngonohlkaaGreatDoor
open Go
theorem float_card : Rows.FnLiteralFloatCardSaid :=
  Claim7.holds_tied_plain_at .later [] [.data, .data, .data, .data, .sentinel, .sentinel, .sentinel, .data, .sentinel, .sentinel, .data, .data, .data, .data, .pinned] true (true, "9bd208ad0ba465942f91f4d3933930092dc1c8c0c20362e61b55920ecead1fdd") true
    float_holds (fun _ h => by cases h) (by kernel_rfl) (fun _ h => by cases h) fnLiteralFloat_row_tie rfl ⟨rfl, rfl⟩ (by kernel_rfl) rfl
    (fun f fn hf hfn => by
      obtain rfl : f = 3 := Option.some.inj ((show Tryz.prog.funcNamed "loop.example/pub-g03237/laws.FnLiteralFloat" = some 3 by kernel_rfl).symm.trans hf) |>.symm
      obtain rfl : fn = Tryz.f3 := (Option.some.inj (Tryz.func3.symm.trans hfn)).symm
      exact ⟨by kernel_rfl, fun j t ht => by
        rw [Tryz.params3] at ht
        have hm : t ∈ [22, 5, 23, 5] := by simpa using Array.mem_of_getElem? ht
        have hall : ([22, 5, 23, 5].all fun u => !Tryz.prog.wantsStandIn u) = true := by kernel_rfl
        exact (show Tryz.prog.wantsStandIn t = false by simpa using List.all_eq_true.1 hall t hm)⟩)
    (by kernel_rfl)
#print axioms float_card
end Go.Proofs.YtfbbkngonohlkaaGreatDoor
