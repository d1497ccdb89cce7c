/- Joined texts: RowFI, RowFK. -/
import Derived.Test.YtfbbkngonohlkaaGreatDoorRows
import Derived.Test.YtfbbkngonohlkaaGreatDoorFScn
import Derived.Test.YtfbbkngonohlkaaGreatDoorGlob
import Derived.ProofKit
import Derived.LaidMore
import Derived.LaidLaws
import Derived.OpenShut
import Derived.OpenVars
import Derived.Stop.Joined
/- What the listed variables give the walk: the globals' cells. -/
namespace Go.Proofs.YtfbbkngonohlkaaGreatDoor
open Go Go.ChangeShapes Go.WideShapes Go.ChangeAt Go.RowKit
set_option linter.unusedVariables false
set_option linter.unusedSimpArgs false
theorem own : ownKnob Tryz.prog.godebug = none := by kernel_rfl
theorem seat_laidOut : laidOutB Tryz.prog = true := by kernel_rfl
theorem laidVar {P : Program} {w : World} {n : String} {d : DataW Unit} : ∀ {l : List (String × DataW Unit)} {ps : List MemPlace}, DataW.LaidVars P w l ps → (n, d) ∈ l →
    ∃ g t cs fuel p, P.globalNamed n = some g ∧ (P.globals[g]?).map (·.type) = some t ∧ w.var? P n = some cs ∧ DataW.trod (fun _ => ()) P w 0 (fun _ => true) false fuel t cs.toList = some (d, p) ∧ ∀ x, x ∈ MemPlace.row ⟨g, 0, none⟩ cs.size → x ∈ ps
  | [], _, _, h => by simp at h
  | (m, e) :: r, ps, hl, h => by
    obtain ⟨g, t, cs, fuel, p, q, h1, h2, h3, h4, h5, rfl⟩ := hl
    rcases List.mem_cons.1 h with e1 | e1
    · cases e1
      exact ⟨g, t, cs, fuel, p, h1, h2, h3, h4, fun x hx => by simp [hx]⟩
    · obtain ⟨g', t', cs', fuel', p', k1, k2, k3, k4, k5⟩ := laidVar h5 e1
      exact ⟨g', t', cs', fuel', p', k1, k2, k3, k4, fun x hx => by simp [k5 x hx]⟩
theorem laidVar_at {P : Program} {w : World} {n : String} {d : DataW Unit} {l : List (String × DataW Unit)} {ps : List MemPlace} {g t : Nat} (h : DataW.LaidVars P w l ps) (hm : (n, d) ∈ l) (hg : P.globalNamed n = some g) (ht : (P.globals[g]?).map (·.type) = some t) :
    ∃ cs fuel p, w.var? P n = some cs ∧ DataW.trod (fun _ => ()) P w 0 (fun _ => true) false fuel t cs.toList = some (d, p) ∧ ∀ x, x ∈ MemPlace.row ⟨g, 0, none⟩ cs.size → x ∈ ps := by
  obtain ⟨g', t', cs, fuel, p, h1, h2, h3, h4, h5⟩ := laidVar h hm
  obtain rfl := Option.some.inj (hg.symm.trans h1)
  obtain rfl := Option.some.inj (ht.symm.trans h2)
  exact ⟨cs, fuel, p, h3, h4, h5⟩
theorem laid_int {P : Program} {w : World} {n : String} {l : List (String × DataW Unit)} {ps : List MemPlace} {g t : Nat} {k : IntKind} {z : Int} (h : DataW.LaidVars P w l ps) (hm : (n, DataW.lit (.int k z)) ∈ l) (hg : P.globalNamed n = some g) (ht : (P.globals[g]?).map (·.type) = some t) (hu : P.underlying t = some (.int k)) :
    w.cell? ⟨g, 0, none⟩ = some (.int k z) := by
  obtain ⟨cs, fuel, p, hv, hd, _⟩ := laidVar_at h hm hg ht
  obtain ⟨r, e1, e2, _⟩ := DataW.trod_int hu hd
  have hr : z = r := by simpa using congrArg Prod.fst e2
  subst hr
  rw [World.var?_cell hg hv 0]
  obtain ⟨l0⟩ := cs
  simp only at e1
  subst e1
  rfl
theorem laid_table {P : Program} {w : World} {n : String} {l : List (String × DataW Unit)} {ps : List MemPlace} {g t e m : Nat} {k : IntKind} {zs : List Int} (h : DataW.LaidVars P w l ps) (hm : (n, DataW.agg (zs.map fun z => .lit (.int k z))) ∈ l) (hg : P.globalNamed n = some g) (ht : (P.globals[g]?).map (·.type) = some t)
    (hu : P.underlying t = some (.array m e)) (he : P.underlying e = some (.int k)) (hc : P.cellsOf e = 1) (hl : zs.length = m) (r : Nat) (hr : r < m) : w.cell? ⟨g, r, none⟩ = some (.int k (zs.getD r 0)) := by
  obtain ⟨cs, fuel, p, hv, hd, _⟩ := laidVar_at h hm hg ht
  obtain ⟨xs, mm, _, ex, _, hn, hel⟩ := DataW.trod_array hu hd
  have hE := hel r hr
  rw [hc, Nat.mul_one, List.getElem?_eq_getElem (by omega)] at hE
  obtain ⟨z, e1, e2, _⟩ := DataW.trod_int he hE
  have e3 : (xs.map (·.1)) = zs.map fun z => .lit (.int k z) := (DataW.agg.inj (Prod.mk.inj ex).1).symm
  have e4 : (xs.map (·.1))[r]? = (zs.map fun z => (DataW.lit (.int k z) : DataW Unit))[r]? := by rw [e3]
  rw [List.getElem?_map, List.getElem?_map, List.getElem?_eq_getElem (by omega : r < xs.length), List.getElem?_eq_getElem (by omega : r < zs.length), e2] at e4
  have hz : z = zs.getD r 0 := by
    simp only [Option.map_some, Option.some.injEq, DataW.lit.injEq, Lit.int.injEq, true_and] at e4
    rw [e4, List.getD, List.getElem?_eq_getElem (by omega : r < zs.length)]; rfl
  rw [World.var?_cell hg hv r, ← hz]
  have : cs.toList[r]? = some (.int k z) := by
    have h0 : ((cs.toList.drop r).take 1)[0]? = some (.int k z) := by rw [e1]; rfl
    simpa using h0
  simpa using this
theorem seat_name275 : Tryz.prog.typeName? 3 275 = some "*errors.errorString" := by kernel_rfl
theorem seat_star : "*" ++ "errors.errorString" = "*errors.errorString" := by decide
theorem seat_row275 (u : TypeId) (h : Tryz.prog.typeName? 3 u = some "*errors.errorString") : u = 275 :=
  typeName_ptr_named (nm := "errors.errorString") (by rw [seat_star]; kernel_rfl) (by kernel_rfl) (by decide) u (by rw [seat_star]; exact h)
def fives : List Int := [1, 5, 25, 125, 625, 3125, 15625, 78125, 390625, 1953125, 9765625, 48828125, 244140625, 1220703125, 6103515625, 30517578125, 152587890625, 762939453125, 3814697265625, 19073486328125, 95367431640625, 476837158203125, 2384185791015625, 11920928955078125, 59604644775390625, 298023223876953125, 1490116119384765625, 7450580596923828125]
theorem fives_at : ∀ r, r < 28 → fives.getD r 0 = 5 ^ r := by decide +kernel
set_option maxRecDepth 100000 in
theorem glb_of_laid {W : World} (h : laidMetH Tryz.prog Rows.fnLiteralFloatRow.laid W) : ∃ E, IsE E ∧ Glb E W := by
  rw [MakeChecks.laidMetH_plain _ _ _ (by kernel_rfl)] at h
  obtain ⟨ps, h, hnd, hrows⟩ := h
  have t1 : ∀ r, r < 28 → W.cell? ⟨12, r, none⟩ = some (.int .u64 (fives.getD r 0)) := laid_table (n := "loop.example/pub-g03237/pub/bigall.pow5tab") (t := 316) (e := 22) h (by simp only [Rows.fnLiteralFloatRow, List.mem_cons]; right; right; right; right; right; right; right; left; rfl) (by kernel_rfl) (by kernel_rfl) (by kernel_rfl) Tryz.underlying22 (by kernel_rfl) (by kernel_rfl)
  have t2 : W.cell? ⟨11, 0, none⟩ = some (.int .i64 40) := laid_int (n := "loop.example/pub-g03237/pub/bigall.divRecursiveThreshold") (t := 3) h (by simp only [Rows.fnLiteralFloatRow, List.mem_cons]; right; right; right; right; right; right; right; right; right; right; left; rfl) (by kernel_rfl) (by kernel_rfl) Tryz.underlying3
  have t3 : W.cell? ⟨5, 0, none⟩ = some (.int .i64 40) := laid_int (n := "loop.example/pub-g03237/pub/bigall.karatsubaThreshold") (t := 3) h (by simp only [Rows.fnLiteralFloatRow, List.mem_cons]; right; right; right; right; right; right; right; right; right; right; right; left; rfl) (by kernel_rfl) (by kernel_rfl) Tryz.underlying3
  have t4 : W.cell? ⟨8, 0, none⟩ = some (.int .i64 12) := laid_int (n := "loop.example/pub-g03237/pub/bigall.basicSqrThreshold") (t := 3) h (by simp only [Rows.fnLiteralFloatRow, List.mem_cons]; right; right; right; right; right; right; right; right; right; right; right; right; left; rfl) (by kernel_rfl) (by kernel_rfl) Tryz.underlying3
  have t5 : W.cell? ⟨9, 0, none⟩ = some (.int .i64 80) := laid_int (n := "loop.example/pub-g03237/pub/bigall.karatsubaSqrThreshold") (t := 3) h (by simp only [Rows.fnLiteralFloatRow, List.mem_cons]; right; right; right; right; right; right; right; right; right; right; right; right; right; left; rfl) (by kernel_rfl) (by kernel_rfl) Tryz.underlying3
  obtain ⟨cs6, f6, p6, hv6, hd6, hin6⟩ := laidVar_at (n := "io.EOF") (g := 1) (t := 79) h (by simp only [Rows.fnLiteralFloatRow, List.mem_cons]; right; right; right; right; right; right; left; rfl) (by kernel_rfl) (by kernel_rfl)
  obtain ⟨cs7, f7, p7, hv7, hd7, hin7⟩ := laidVar_at (n := "internal/strconv.uint64pow10") (g := 15) h (by simp only [Rows.fnLiteralFloatRow, List.mem_cons]; right; right; left; rfl) (by kernel_rfl) rfl
  obtain ⟨l6⟩ := cs6
  have ok6 : ∀ u v, l6 = [.iface u v] → Value.okWide Tryz.prog W .any 0 u v := fun u v e => by
    subst e
    exact (hrows 1 0 (hin6 _ (by simp [MemPlace.row]))).2 u v (by simpa using World.var?_cell (show Tryz.prog.globalNamed "io.EOF" = some 1 by kernel_rfl) hv6 0)
  obtain ⟨a6, s6, rfl, hc6, hs6, hz6, _⟩ := errorString_of_trod Tryz.underlying79 seat_row275 Tryz.underlying275 Tryz.underlying277 rfl rfl Tryz.underlying9 (by kernel_rfl) (by kernel_rfl) hd6 ok6
  refine ⟨.iface 275 (.pointer (some a6)), ⟨a6, rfl⟩, ?_, t3, t4, t5, t2, fun i hi => by rw [t1 i hi, fives_at i hi], ?_⟩
  · simpa using World.var?_cell (show Tryz.prog.globalNamed "io.EOF" = some 1 by kernel_rfl) hv6 0
  · have hv : W.var? Tryz.prog "internal/strconv.uint64pow10" = some cs7 := hv7
    unfold World.var? at hv
    rw [show Tryz.prog.globalNamed "internal/strconv.uint64pow10" = some 15 by kernel_rfl] at hv
    simp only [Option.bind_some] at hv
    cases hh : W.heap[15]? with
    | none => rw [hh] at hv; cases hv
    | some o => exact (Array.getElem?_eq_some_iff.1 hh).1
#print axioms glb_of_laid
end Go.Proofs.YtfbbkngonohlkaaGreatDoor
/- The closed facts of the decimal literals' row. -/
namespace Go.Proofs.YtfbbkngonohlkaaGreatDoor
open Go Go.ChangeShapes Go.WideShapes Go.ChangeAt Go.RowKit
theorem float_fact1 : (Rows.fnLiteralFloatRow.wf (OpenSpec.ofChange Rows.fnLiteralFloatSpec)) = true := by kernel_rfl
theorem float_fact2 : (laidOutB Tryz.prog) = true := by kernel_rfl
theorem float_fact3 : (mapsRowed Tryz.prog) = true := by kernel_rfl
theorem float_fact4 : (Tryz.f3.params.all (Tryz.prog.readableRec ·)) = true := by kernel_rfl
theorem float_fact5 : (namedTie Tryz.prog Rows.fnLiteralFloatRow.named Rows.fnLiteralFloatSpec.vars) = true := by kernel_rfl
theorem float_fact6 : ((Rows.fnLiteralFloatRow.stops == [])) = true := by kernel_rfl
theorem float_fact7 : ((Tryz.prog.stops == [])) = true := by kernel_rfl
theorem float_fact8 : ((Rows.fnLiteralFloatRow.knobs == [])) = true := by kernel_rfl
theorem float_fact9 : ((Tryz.prog.stopKnobs == [])) = true := by kernel_rfl
theorem float_fact10 : ((Rows.fnLiteralFloatRow.inPlace == Tryz.prog.inPlace 3)) = true := by kernel_rfl
theorem float_fact11 : ((Rows.fnLiteralFloatRow.unfollowed == Tryz.prog.unfollowed 3)) = true := by kernel_rfl
theorem float_fact12 : ((Rows.fnLiteralFloatRow.recurses == Tryz.prog.recurses 3)) = true := by kernel_rfl
theorem float_fact13 : ((Rows.fnLiteralFloatRow.named == Tryz.prog.varsNamed 3)) = true := by kernel_rfl
theorem float_fact14 : ((Rows.fnLiteralFloatRow.maps == (Tryz.f3.params.toList ++ Rows.fnLiteralFloatSpec.plain.varTypes Tryz.prog).any (Tryz.prog.mapsRec ·))) = true := by kernel_rfl
theorem float_fact15 : ((Rows.fnLiteralFloatRow.ifaces == (Tryz.f3.params.toList ++ Rows.fnLiteralFloatSpec.plain.varTypes Tryz.prog).any (Tryz.prog.ifacesRec ·))) = true := by kernel_rfl
theorem float_fact16 : ((Rows.fnLiteralFloatRow.mapsOut == Tryz.prog.mapsAmong Tryz.f3.resultTypes.toList)) = true := by kernel_rfl
theorem float_fact17 : ((Rows.fnLiteralFloatRow.loops == (Tryz.f3.params.toList ++ Rows.fnLiteralFloatSpec.plain.varTypes Tryz.prog).any (Tryz.prog.loopsFrom ·))) = true := by kernel_rfl
theorem float_fact18 : ((Rows.fnLiteralFloatRow.wideKeys == (Tryz.f3.params.toList ++ Rows.fnLiteralFloatSpec.plain.varTypes Tryz.prog ++ Tryz.f3.resultTypes.toList).any (Tryz.prog.wideKeysFrom ·))) = true := by kernel_rfl
theorem float_fact19 : (Rows.fnLiteralFloatSpec.vars.all (Tryz.prog.varReadable ·)) = true := by kernel_rfl
theorem float_fact20 : (Tryz.f3.resultTypes.all (fun t => Tryz.prog.readableRec t && decide (t < Tryz.prog.types.size))) = true := by kernel_rfl
theorem float_fact21 : ((Rows.fnLiteralFloatRow.ifacesOut == Tryz.f3.resultTypes.toList.any (Tryz.prog.ifacesRec ·))) = true := by kernel_rfl
theorem float_fact22 : ((Rows.fnLiteralFloatRow.loopsOut == Tryz.f3.resultTypes.toList.any (Tryz.prog.loopsFrom ·))) = true := by kernel_rfl
theorem float_fact23 : ((Rows.fnLiteralFloatRow.plainKeys == Tryz.prog.plainKeys)) = true := by kernel_rfl
theorem float_fact24 : (Rows.fnLiteralFloatRow.shortTexts.isNone) = true := by kernel_rfl
theorem float_fact25 : (Tryz.prog.stopsHeard) = true := by kernel_rfl
theorem float_fact26 : (Tryz.prog.mayEnter) = true := by kernel_rfl
theorem float_fact27 : ((Rows.fnLiteralFloatRow.lifted == Tryz.prog.liftsFinal)) = true := by kernel_rfl
theorem float_fact28 : ((Tryz.prog.make == some Rows.fnLiteralFloatRow.make)) = true := by kernel_rfl
theorem float_fact30 : ((Rows.fnLiteralFloatRow.pinned == Rows.fnLiteralFloatRow.pinnedBy)) = true := by kernel_rfl
theorem float_fact31 : ((Rows.fnLiteralFloatRow.veiled == (Tryz.f3.params.toList ++ Rows.fnLiteralFloatSpec.plain.varTypes Tryz.prog ++ Tryz.f3.resultTypes.toList).any (Tryz.prog.veiledRec ·))) = true := by kernel_rfl
theorem float_fact32 : (Rows.fnLiteralFloatRow.veiledFits Tryz.prog Tryz.f3.params.toList (Tryz.f3.params.toList ++ Rows.fnLiteralFloatSpec.plain.varTypes Tryz.prog ++ Tryz.f3.resultTypes.toList)) = true := by kernel_rfl
theorem float_instance : Tryz.f3.isInstance Tryz.prog Rows.fnLiteralFloatRow.origin Rows.fnLiteralFloatRow.targs := of_decide_eq_true (by kernel_rfl)
theorem float_wrapper : Tryz.f3.isWrapper Tryz.prog Rows.fnLiteralFloatRow.wrapper Rows.fnLiteralFloatRow.mainSum := by
  unfold Func.isWrapper; first | (rw [if_pos (by decide +kernel)]; kernel_rfl) | (rw [if_neg (by decide +kernel)]; exact ⟨rfl, rfl⟩)
#print axioms float_wrapper
end Go.Proofs.YtfbbkngonohlkaaGreatDoor
