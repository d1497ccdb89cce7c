/- The row of the decimal literals, proved. -/
import Derived.Test.YtfbbkngonohlkaaGreatDoorFRow
import Derived.Test.YtfbbkngonohlkaaGreatDoorFLaw
import Derived.WalkKit
import Derived.Lay
namespace Go.Proofs.YtfbbkngonohlkaaGreatDoor
open Go Go.ChangeShapes Go.WideShapes Go.ChangeAt Go.RowKit
set_option linter.unusedVariables false
set_option linter.unusedSimpArgs false
set_option maxRecDepth 100000 in
theorem door_met (os : Os) (args : Array Value) : laidMetH Tryz.prog Rows.fnLiteralFloatRow.laid ((World.laidAll Tryz.prog os Rows.fnLiteralFloatRow.laid).forCall (fun _ _ => 0) ⟨#[], args, []⟩).memory := by
  rw [MakeChecks.laidMetH_plain _ _ _ (by kernel_rfl)]
  exact laidMet_laidAll _ (by kernel_rfl) (by kernel_rfl)
set_option maxRecDepth 100000 in
theorem float_lifted (os : Os) (started : os.Started) (H : Type) (enc : TypeId × Value → H) :
    ReturnsInHanded {} Tryz.checked os 3 .any (fun w args => (Rows.fnLiteralFloatSpec.pre enc Tryz.prog Tryz.f3 [] false w args ∧ laidMetH Tryz.prog Rows.fnLiteralFloatRow.laid w) ∧ sizedMet enc Tryz.prog Tryz.f3 (OpenSpec.ofChange Rows.fnLiteralFloatSpec) false w args)
      (Rows.fnLiteralFloatSpec.post enc Tryz.prog Tryz.f3 false true false false) := by
  refine returnsInHanded_of_change_and (C := Tryz.checked) (X := fun w _ => laidMetH Tryz.prog Rows.fnLiteralFloatRow.laid w) (fun _ _ _ hh h => h.of_heap hh) own started (by kernel_rfl) Tryz.func3
    (ChangeSpec.witness_shaped (enc := enc) (C := Tryz.checked) (os := os) (X := fun w _ => laidMetH Tryz.prog Rows.fnLiteralFloatRow.laid w) false (World.laidAll Tryz.prog os Rows.fnLiteralFloatRow.laid) #[.int .u64 0, .int .u8 0, .int .i16 0, .int .u8 0] 8 (World.laidAll_os _ _ _) (World.shaped_of_ZipB (by kernel_rfl) (by kernel_rfl)) (by kernel_rfl) (by kernel_rfl) (by kernel_rfl) (door_met os _)) ?_
  intro W base args ds gs before hval0 hW _ _ hL _
  have hval : ∀ (j : Nat) t v, Tryz.f3.params[j]? = some t → args[j]? = some v → Value.okWide Tryz.prog W .any base t v := hval0
  have hW' := hW
  obtain ⟨p, q, hA0, hV0, rfl, hfz, hnd⟩ := hW
  have hA : DataW.TrodAll enc Tryz.prog W 0 (fun _ => true) true Tryz.f3.params.toList args.toList ds p := hA0
  have hV : DataW.TrodVars enc Tryz.prog W (fun _ => true) Rows.fnLiteralFloatSpec.vars gs q := hV0
  rw [Tryz.params3] at hA hval
  obtain ⟨v0, vs0, d0, ds0, p0, q0, hargs, rfl, rfl, h0, r0⟩ := trodAll_cons hA
  obtain ⟨v1, vs1, d1, ds1, p1, q1, rfl, rfl, rfl, h1, r1⟩ := trodAll_cons r0
  obtain ⟨v2, vs2, d2, ds2, p2, q2, rfl, rfl, rfl, h2, r2⟩ := trodAll_cons r1
  obtain ⟨v3, vs3, d3, ds3, p3, q3, rfl, rfl, rfl, h3, r3⟩ := trodAll_cons r2
  obtain ⟨rfl, rfl, rfl⟩ := trodAll_nil r3
  obtain rfl : args = #[v0, v1, v2, v3] := by cases args; simp_all
  obtain ⟨a0, rfl, rfl, rfl, w0⟩ := open_int Tryz.underlying22 (hval 0 22 v0 rfl rfl) h0
  obtain ⟨a1, rfl, rfl, rfl, w1⟩ := open_int Tryz.underlying5 (hval 1 5 v1 rfl rfl) h1
  obtain ⟨a2, rfl, rfl, rfl, w2⟩ := open_int Tryz.underlying23 (hval 2 23 v2 rfl rfl) h2
  obtain ⟨a3, rfl, rfl, rfl, w3⟩ := open_int Tryz.underlying5 (hval 3 5 v3 rfl rfl) h3
  obtain ⟨E, hE, hG⟩ := glb_of_laid hL
  clear hA0 hval0 hV0
  obtain ⟨g1, gs1, rfl⟩ : ∃ g gs', gs = g :: gs' := by cases gs with | nil => exact hV.elim | cons a b => exact ⟨_, _, rfl⟩
  have hlen : ∀ {ns : List String} {gs : List (DataW H)} {ps : List MemPlace}, DataW.TrodVars enc Tryz.prog W (fun _ => true) ns gs ps → gs.length = ns.length := by
    intro ns
    induction ns with
    | nil => intro gs ps h; cases gs with | nil => rfl | cons a b => exact h.elim
    | cons n ns ih => intro gs ps h; cases gs with
      | nil => exact h.elim
      | cons a b => obtain ⟨_, _, _, _, _, _, _, _, _, _, hs, _⟩ := h; simp [ih hs]
  have hl := hlen hV
  obtain ⟨g2, g3, g4, g5, g6, g7, rfl⟩ : ∃ g2 g3 g4 g5 g6 g7, gs1 = [g2, g3, g4, g5, g6, g7] := by
    match gs1, hl with
    | [g2, g3, g4, g5, g6, g7], _ => exact ⟨_, _, _, _, _, _, rfl⟩
  simp only [List.append_nil] at hW'
  have b0 : (0 : Int) ≤ a0 ∧ a0 < 2 ^ 64 := by
    have h : IntKind.u64.min ≤ a0 ∧ a0 ≤ IntKind.u64.max := by simpa [Lit.wf] using w0
    rw [show IntKind.u64.min = 0 from rfl, show IntKind.u64.max = 2 ^ 64 - 1 from rfl] at h
    omega
  have b1 : (0 : Int) ≤ a1 ∧ a1 < 256 := by
    have h : IntKind.u8.min ≤ a1 ∧ a1 ≤ IntKind.u8.max := by simpa [Lit.wf] using w1
    rw [show IntKind.u8.min = 0 from rfl, show IntKind.u8.max = 255 from rfl] at h
    omega
  have b2 : (-32768 : Int) ≤ a2 ∧ a2 < 32768 := by
    have h : IntKind.i16.min ≤ a2 ∧ a2 ≤ IntKind.i16.max := by simpa [Lit.wf] using w2
    rw [show IntKind.i16.min = -32768 from rfl, show IntKind.i16.max = 32767 from rfl] at h
    omega
  have b3 : (0 : Int) ≤ a3 ∧ a3 < 256 := by
    have h : IntKind.u8.min ≤ a3 ∧ a3 ≤ IntKind.u8.max := by simpa [Lit.wf] using w3
    rw [show IntKind.u8.min = 0 from rfl, show IntKind.u8.max = 255 from rfl] at h
    omega
  refine (float_law hE hG b0 b1.1 b1.2 b2.1 b2.2 b3.1 b3.2).mono fun e W' ⟨he, hg⟩ => ?_
  subst he
  have hb : Below W.heap.size W W' := ⟨(Hid.out hg).os, (Hid.out hg).tape, (Hid.out hg).output, (Hid.out hg).size, fun k hk => (Hid.out hg).block k hk (by simp)⟩
  refine ⟨_, rfl, _, _, _, [], [], q, hW', trodAll_mk1 (shut_bool Tryz.underlying4 _), trodAll_cons_mk (shut_int Tryz.underlying22 w0) (trodAll_cons_mk (shut_int Tryz.underlying5 w1) (trodAll_cons_mk (shut_int Tryz.underlying23 w2) (trodAll_cons_mk (shut_int Tryz.underlying5 w3) trodAll_mk0))), hb.trodVars seat_laidOut (by kernel_rfl) hV, hb.frame _, fun h => by cases h⟩
#print axioms float_lifted
end Go.Proofs.YtfbbkngonohlkaaGreatDoor
