/- The greatest common divisor of two Ints: up to the ordering of the two. -/
import Derived.Test.YtfbbkngonohlkaaGreatDoorIntAbs
import Derived.Deep.QuietTactic
import Derived.Deep.DeepCutAuto
import Derived.Deep.CutRange
import Derived.Deep.CutBlock
namespace Go.Proofs.YtfbbkngonohlkaaGreatDoor
open Go Go.RowKit
set_option linter.unusedVariables false
set_option linter.unusedSimpArgs false
theorem results_tmp5 {fn : Func} {t u v x y : Tmp} (h : fn.results = #[.tmp t, .tmp u, .tmp v, .tmp x, .tmp y]) (tmps : Array Value) (P : Program) (w : World) :
    (results fn tmps).run P w = .ok (.tuple #[tmps.getD t undef, tmps.getD u undef, tmps.getD v undef, tmps.getD x undef, tmps.getD y undef]) w := by
  simp [results, h]
def z110 : Obj := .cells #[.bool false, .slice none 0 0] 110
/-- The two numbers, ordered, in Ints of their own; q and r are new Ints. -/
structure LhSt (w wx : World) (pb sb qb rb : Nat) (vP vS : Value) (P : List Int) (S : List Int) : Prop where
  ip : IntB wx pb vP P
  is : IntB wx sb vS S
  q : Bk wx qb 110 [.bool false, .slice none 0 0]
  r : Bk wx rb 110 [.bool false, .slice none 0 0]
  fr : Fr [] w wx
  np : w.heap.size ≤ pb
  ns : w.heap.size ≤ sb
  nq : w.heap.size ≤ qb
  nr : w.heap.size ≤ rb
  dps : pb ≠ sb
  dpq : pb ≠ qb
  dpr : pb ≠ rb
  dsq : sb ≠ qb
  dsr : sb ≠ rb
  dqr : qb ≠ rb
  vp : ∀ k, k ∈ vb vP → w.heap.size ≤ k ∧ k ≠ qb ∧ k ≠ rb ∧ k ≠ sb
  vs : ∀ k, k ∈ vb vS → w.heap.size ≤ k ∧ k ≠ qb ∧ k ≠ rb ∧ k ≠ pb
theorem LhSt.swap {w wx : World} {pb sb qb rb : Nat} {vP vS : Value} {P S : List Int} (h : LhSt w wx pb sb qb rb vP vS P S) : LhSt w wx sb pb qb rb vS vP S P :=
  ⟨h.is, h.ip, h.q, h.r, h.fr, h.ns, h.np, h.nq, h.nr, h.dps.symm, h.dsq, h.dsr, h.dpq, h.dpr, h.dqr, h.vs, h.vp⟩
theorem LhSt.drew {w wx : World} {pb sb qb rb : Nat} {vP vS : Value} {P S : List Int} (h : LhSt w wx pb sb qb rb vP vS P S) (n : Nat) : LhSt w (wx.drewN n) pb sb qb rb vP vS P S := by
  have f : Fr [] wx (wx.drewN n) := (Fr.refl [] wx).drewN n
  exact ⟨h.ip.fr f (by simp) (by simp), h.is.fr f (by simp) (by simp), h.q.drewN n, h.r.drewN n, h.fr.drewN n, h.np, h.ns, h.nq, h.nr, h.dps, h.dpq, h.dpr, h.dsq, h.dsr, h.dqr, h.vp, h.vs⟩
theorem lh_start {w w1 w2 : World} {vA vB : Value} {X Y : List Int} (nX : Nrm X) (nY : Nrm Y)
    (a1 : Bk w1 w.heap.size 110 [.bool false, vA]) (a2 : NatV w1 vA X) (a3 : capOf vA ≤ 9223372036854775807) (a4 : Fr [w.heap.size] (w.alloc z110) w1) (a5 : ∀ b, b ∈ vb vA → (w.alloc z110).heap.size ≤ b)
    (b1 : Bk w2 w1.heap.size 110 [.bool false, vB]) (b2 : NatV w2 vB Y) (b3 : capOf vB ≤ 9223372036854775807) (b4 : Fr [w1.heap.size] (w1.alloc z110) w2) (b5 : ∀ b, b ∈ vb vB → (w1.alloc z110).heap.size ≤ b) :
    LhSt w ((w2.alloc z110).alloc z110) w.heap.size w1.heap.size w2.heap.size (w2.heap.size + 1) vA vB X Y := by
  have s1 := a4.size
  have s2 := b4.size
  rw [World.size_alloc] at s1 s2
  have f0 : Fr [] w w1 := ((Fr.refl [] w).alloc z110).trans a4 (by simp)
  have f1 : Fr [] w1 w2 := ((Fr.refl [] w1).alloc z110).trans b4 (by simp)
  have f2 : Fr [] w2 ((w2.alloc z110).alloc z110) := ((Fr.refl [] w2).alloc _).alloc _
  have f3 : Fr [] w1 ((w2.alloc z110).alloc z110) := f1.trans f2 (by simp)
  have lA := a2.lt
  have lB := b2.lt
  rw [World.size_alloc] at a5 b5
  refine ⟨⟨f3.bk a1 (by simp), a2.fr f3 (by simp), nX, a3, fun h => by have := a5 _ h; omega⟩, ⟨f2.bk b1 (by simp), b2.fr f2 (by simp), nY, b3, fun h => by have := b5 _ h; omega⟩, (Bk.new w2 110 _).alloc _, ?_, f0.trans f3 (by simp), Nat.le_refl _, by omega, by omega, by omega, by omega, by omega, by omega, by omega, by omega, by omega, fun k hk => ?_, fun k hk => ?_⟩
  · have := Bk.new (w2.alloc z110) 110 [.bool false, .slice none 0 0]
    rw [World.size_alloc] at this
    exact this
  · have h1 := a5 k hk
    have h2 := lA k hk
    omega
  · have h1 := b5 k hk
    have h2 := lB k hk
    omega
end Go.Proofs.YtfbbkngonohlkaaGreatDoor
