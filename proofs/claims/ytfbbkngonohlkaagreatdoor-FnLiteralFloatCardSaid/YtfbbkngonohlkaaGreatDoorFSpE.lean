/- Joined texts: SpecTim, SpecSame, SpecFrac, SpecPair, SpecIsP. -/
import Derived.Test.YtfbbkngonohlkaaGreatDoorFSpC
import Derived.BigRegion
import Derived.Deep.DeepCutAuto
import Derived.Deep.CutRange
/- The specification's Times. -/
namespace Go.Proofs.YtfbbkngonohlkaaGreatDoor
open Go Go.RowKit
set_option linter.unusedVariables false
set_option linter.unusedSimpArgs false
theorem Fr.fill3 {w w1 : World} {g : Nat} {x' y' z' : Value} (h : Fr [] w w1) : Fr [g] w (((w1.setCell ⟨g, 0, none⟩ x').setCell ⟨g, 1, none⟩ y').setCell ⟨g, 2, none⟩ z') :=
  (((h.mono (by simp)).set _ _ (by simp)).set _ _ (by simp)).set _ _ (by simp)
theorem mul_sl {w : World} {va vc : Value} {x y : Int} (ha : SD w va x) (hb : SD w vc y) {N : Nat} (hx : x < PP N) (hy : y < PP N) (hN : N ≤ 10000) :
    Calls Tryz.prog 25 #[va, vc] w fun e w' => ∃ a n c, e = .returned (.slice a n c) ∧ Hid (SD w' (.slice a n c) (x * y) ∧ Fr [] w w') := by
  refine (mul_sd ha hb hx hy hN).mono ?_
  rintro e w' ⟨v, rfl, h⟩
  obtain ⟨a, n, c, rfl, _⟩ := h.out.1.form
  exact ⟨a, n, c, rfl, h⟩
theorem over_sl {w : World} {a b : Option Addr} {n c n' c' N : Nat} {x y : Int} (ha : SD w (.slice a n c) x) (hb : SD w (.slice b n' c') y) (hy : 0 < y) (hx : x < PP N) (hyN : y < PP N) (hN : N ≤ 5000) :
    Calls Tryz.prog 24 #[.bool false, .slice a n c, .slice b n' c'] w fun e w' => ∃ a n c a' n' c', e = .returned (.agg #[.bool false, .slice a n c, .slice a' n' c']) ∧ Hid (RV w' (.agg #[.bool false, .slice a n c, .slice a' n' c']) (x / Int.gcd x y) (y / Int.gcd x y) ∧ Fr [] w w') := by
  refine (over_yes ha hb hy hx hyN hN).mono ?_
  rintro e w' ⟨r, rfl, h⟩
  obtain ⟨a, n, c, a', n', c', rfl, _⟩ := id h.out.1
  exact ⟨a, n, c, a', n', c', rfl, h⟩
def ob40 (x y z : Value) : Obj := .cells #[x, y, z] 40
/-- Two fractions boxed, and room for a third. -/
def tw (w : World) (x y z x' y' z' : Value) : World := ((w.alloc (ob40 x y z)).alloc (ob40 x' y' z')).alloc z40
theorem tw_fr (w : World) (x y z x' y' z' : Value) : Fr [] w (tw w x y z x' y' z') := (((Fr.refl [] w).alloc _).alloc _).alloc _
structure TwC (w u : World) (x y z x' y' z' : Value) : Prop where
  a0 : u.cell? ⟨w.heap.size, 0, none⟩ = some x
  a1 : u.cell? ⟨w.heap.size, 1, none⟩ = some y
  a2 : u.cell? ⟨w.heap.size, 2, none⟩ = some z
  b0 : u.cell? ⟨w.heap.size + 1, 0, none⟩ = some x'
  b1 : u.cell? ⟨w.heap.size + 1, 1, none⟩ = some y'
  b2 : u.cell? ⟨w.heap.size + 1, 2, none⟩ = some z'
theorem tw_cells {w u : World} {x y z x' y' z' : Value} (hf : Fr [w.heap.size + 1 + 1] (tw w x y z x' y' z') u) : TwC w u x y z x' y' z' := by
  have h1 : Bk (w.alloc (ob40 x y z)) w.heap.size 40 [x, y, z] := Bk.new w 40 _
  have h2 : Bk ((w.alloc (ob40 x y z)).alloc (ob40 x' y' z')) (w.heap.size + 1) 40 [x', y', z'] := by
    have := Bk.new (w.alloc (ob40 x y z)) 40 [x', y', z']
    rw [World.size_alloc] at this
    exact this
  have g1 := hf.bk ((h1.alloc _).alloc z40) (by simp; omega)
  have g2 := hf.bk (h2.alloc z40) (by simp)
  exact ⟨by rw [g1.cell]; rfl, by rw [g1.cell]; rfl, by rw [g1.cell]; rfl, by rw [g2.cell]; rfl, by rw [g2.cell]; rfl, by rw [g2.cell]; rfl⟩
theorem tw_bk {w u : World} {x y z x' y' z' : Value} (hf : Fr [] (tw w x y z x' y' z') u) : Bk u (w.heap.size + 1 + 1) 40 [.bool false, .slice none 0 0, .slice none 0 0] := by
  have h2 : Bk (tw w x y z x' y' z') (w.heap.size + 1 + 1) 40 [.bool false, .slice none 0 0, .slice none 0 0] := by
    have := Bk.new ((w.alloc (ob40 x y z)).alloc (ob40 x' y' z')) 40 [.bool false, .slice none 0 0, .slice none 0 0]
    rw [World.size_alloc, World.size_alloc] at this
    exact this
  exact hf.bk h2 (by simp)
theorem tw_z {w u : World} {x y z x' y' z' : Value} (hf : Fr [] (tw w x y z x' y' z') u) : u.cell? ⟨w.heap.size + 1 + 1, 0, none⟩ = some (.bool false) ∧ u.cell? ⟨w.heap.size + 1 + 1, 1, none⟩ = some (.slice none 0 0) ∧ u.cell? ⟨w.heap.size + 1 + 1, 2, none⟩ = some (.slice none 0 0) ∧
    u.frozen? ⟨w.heap.size + 1 + 1, 0, none⟩ = false ∧ u.frozen? ⟨w.heap.size + 1 + 1, 1, none⟩ = false ∧ u.frozen? ⟨w.heap.size + 1 + 1, 2, none⟩ = false := by
  have h := tw_bk hf
  exact ⟨by rw [h.cell]; rfl, by rw [h.cell]; rfl, by rw [h.cell]; rfl, h.free 0, h.free 1, h.free 2⟩
set_option maxRecDepth 100000 in
set_option maxHeartbeats 1000000 in
theorem times_yes {w : World} {a b a' b' : Option Addr} {n c m d n' c' m' d' N : Nat} {x y x' y' : Int} (hx : SD w (.slice a n c) x) (hy : SD w (.slice b m d) y) (hx' : SD w (.slice a' n' c') x') (hy' : SD w (.slice b' m' d') y')
    (h0 : 0 < y * y') (h1 : x < PP N) (h2 : y < PP N) (h3 : x' < PP N) (h4 : y' < PP N) (h5 : x * x' < PP N) (h6 : y * y' < PP N) (hN : N ≤ 5000) :
    Calls Tryz.prog 11 #[.agg #[.bool false, .slice a n c, .slice b m d], .agg #[.bool false, .slice a' n' c', .slice b' m' d']] w fun e w' => ∃ r, e = .returned r ∧ Hid (RV w' r (x * x' / Int.gcd (x * x') (y * y')) (y * y' / Int.gcd (x * x') (y * y')) ∧ Fr [] w w') := by
  have HK : Hid (∀ u, Fr [w.heap.size + 1 + 1] (tw w (.bool false) (.slice a n c) (.slice b m d) (.bool false) (.slice a' n' c') (.slice b' m' d')) u → TwC w u (.bool false) (.slice a n c) (.slice b m d) (.bool false) (.slice a' n' c') (.slice b' m' d')) := fun u hf => tw_cells hf
  have hf0 := tw_fr w (.bool false) (.slice a n c) (.slice b m d) (.bool false) (.slice a' n' c') (.slice b' m' d')
  have HM1 : Hid (∀ u, Fr [] (tw w (.bool false) (.slice a n c) (.slice b m d) (.bool false) (.slice a' n' c') (.slice b' m' d')) u → Hid (Calls Tryz.prog 25 #[.slice a n c, .slice a' n' c'] u fun e w' => ∃ a n c, e = .returned (.slice a n c) ∧ Hid (SD w' (.slice a n c) (x * x') ∧ Fr [] u w'))) := fun u hf => mul_sl (hx.fr (hf0.trans hf (by simp))) (hx'.fr (hf0.trans hf (by simp))) h1 h3 (by omega)
  have HM2 : Hid (∀ u, Fr [] (tw w (.bool false) (.slice a n c) (.slice b m d) (.bool false) (.slice a' n' c') (.slice b' m' d')) u → Hid (Calls Tryz.prog 25 #[.slice b m d, .slice b' m' d'] u fun e w' => ∃ a n c, e = .returned (.slice a n c) ∧ Hid (SD w' (.slice a n c) (y * y') ∧ Fr [] u w'))) := fun u hf => mul_sl (hy.fr (hf0.trans hf (by simp))) (hy'.fr (hf0.trans hf (by simp))) h2 h4 (by omega)
  have HOV : Hid (∀ u a b n c n' c', SD u (.slice a n c) (x * x') → SD u (.slice b n' c') (y * y') → Hid (Calls Tryz.prog 24 #[.bool false, .slice a n c, .slice b n' c'] u fun e w' => ∃ a n c a' n' c', e = .returned (.agg #[.bool false, .slice a n c, .slice a' n' c']) ∧ Hid (RV w' (.agg #[.bool false, .slice a n c, .slice a' n' c']) (x * x' / Int.gcd (x * x') (y * y')) (y * y' / Int.gcd (x * x') (y * y')) ∧ Fr [] u w'))) := fun u a b n c n' c' g1 g2 => over_sl g1 g2 h0 h5 h6 hN
  have HKS : Hid (∀ u, Fr [w.heap.size + 1 + 1] (tw w (.bool false) (.slice a n c) (.slice b m d) (.bool false) (.slice a' n' c') (.slice b' m' d')) u → u.cell? ⟨w.heap.size, 0, none⟩ = some (.bool false) ∧ u.cell? ⟨w.heap.size, 1, none⟩ = some (.slice a n c) ∧ u.cell? ⟨w.heap.size, 2, none⟩ = some (.slice b m d) ∧ u.cell? ⟨w.heap.size + 1, 0, none⟩ = some (.bool false) ∧ u.cell? ⟨w.heap.size + 1, 1, none⟩ = some (.slice a' n' c') ∧ u.cell? ⟨w.heap.size + 1, 2, none⟩ = some (.slice b' m' d')) := fun u hf => by
    obtain ⟨k1, k2, k3, k4, k5, k6⟩ := tw_cells hf
    exact ⟨k1, k2, k3, k4, k5, k6⟩
  clear HK hx hy hx' hy' h0 h1 h2 h3 h4 h5 h6
  have HF0 := Lib.hid hf0
  clear hf0
  go_enter Tryz.func11, Tryz.ntmps11
  go_wp2_with fail
  go_region_held3 (fun u => u.cell? ⟨w.heap.size, 0, none⟩ = some (.bool false) ∧ u.cell? ⟨w.heap.size, 1, none⟩ = some (.slice a n c) ∧ u.cell? ⟨w.heap.size, 2, none⟩ = some (.slice b m d) ∧ u.cell? ⟨w.heap.size + 1, 0, none⟩ = some (.bool false) ∧ u.cell? ⟨w.heap.size + 1, 1, none⟩ = some (.slice a' n' c') ∧ u.cell? ⟨w.heap.size + 1, 2, none⟩ = some (.slice b' m' d')) (first | exact (HKS.out _ (Fr.refl _ _)) | exact (HKS.out _ (Fr.refl _ _).drew) | exact (HKS.out _ (hfA.out.mono (by simp))) | exact (HKS.out _ (hfB.out.mono (by simp))) | exact (HKS.out _ (hfC.out.mono (by simp))) | exact (HKS.out _ hfC.out.fill3)) (first | (go_at_call 24; refine HO.out.mono ?_; rintro e w3 ⟨a3, n3, c3, a3', n3', c3', rfl, h3⟩; have hfC := Lib.hid (hfB.out.trans h3.out.2 (by simp)); obtain ⟨q0, q1, q2, q3, q4, q5⟩ := tw_z hfC.out) | (go_at_call 25; refine HMB.out.mono ?_; rintro e w2 ⟨a2, n2, c2, rfl, h2⟩; have hfB := Lib.hid (hfA.out.trans h2.out.2 (by simp)); have HO := HOV.out w2 _ _ _ _ _ _ (h1.out.1.fr h2.out.2) h2.out.1) | (go_at_call 25; refine (HM1.out _ (Fr.refl _ _)).out.mono ?_; rintro e w1 ⟨a1, n1, c1, rfl, h1⟩; have hfA := Lib.hid h1.out.2; have HMB := HM2.out w1 h1.out.2) | (go_at_call 25; refine (HM1.out _ (Fr.refl _ _).drew).out.mono ?_; rintro e w1 ⟨a1, n1, c1, rfl, h1⟩; have hfA := Lib.hid ((Fr.refl [] (tw w (.bool false) (.slice a n c) (.slice b m d) (.bool false) (.slice a' n' c') (.slice b' m' d'))).drew.trans h1.out.2 (by simp)); have HMB := HM2.out w1 hfA.out))
  all_goals
    go_wp2_with fail
    refine bodyPost_ret (ret40 rfl rfl (tw_bk hfC.out).fill) rfl ?_
    have f0 := HF0.out.trans hfC.out (by simp)
    exact ⟨_, rfl, h3.out.1.fill (tw_bk hfC.out), f0.fill (by omega)⟩
end Go.Proofs.YtfbbkngonohlkaaGreatDoor
/- The specification's same, IsNumber, fraction where they say yes. -/
namespace Go.Proofs.YtfbbkngonohlkaaGreatDoor
open Go Go.RowKit
set_option linter.unusedVariables false
set_option linter.unusedSimpArgs false
theorem bk_cells {w u : World} {x y z : Value} (hf : Fr [] (w.alloc (ob40 x y z)) u) : u.cell? ⟨w.heap.size, 0, none⟩ = some x ∧ u.cell? ⟨w.heap.size, 1, none⟩ = some y ∧ u.cell? ⟨w.heap.size, 2, none⟩ = some z := by
  have h1 : Bk (w.alloc (ob40 x y z)) w.heap.size 40 [x, y, z] := Bk.new w 40 _
  have g1 := hf.bk h1 (by simp)
  exact ⟨by rw [g1.cell]; rfl, by rw [g1.cell]; rfl, by rw [g1.cell]; rfl⟩
set_option maxRecDepth 100000 in
theorem same_yes {w : World} {a b a' b' : Option Addr} {n c m d n' c' m' d' N : Nat} {x y : Int} (hx : SD w (.slice a n c) x) (hy : SD w (.slice b m d) y) (hx' : SD w (.slice a' n' c') x) (hy' : SD w (.slice b' m' d') y) (h1 : x < PP N) (h2 : y < PP N) (hN : N ≤ 5000) :
    Calls Tryz.prog 21 #[.agg #[.bool false, .slice a n c, .slice b m d], .agg #[.bool false, .slice a' n' c', .slice b' m' d']] w fun e w' => e = .returned (.bool true) ∧ Fr [] w w' := by
  have hf0 : Fr [] w ((w.alloc (ob40 (.bool false) (.slice a n c) (.slice b m d))).alloc (ob40 (.bool false) (.slice a' n' c') (.slice b' m' d'))) := ((Fr.refl [] w).alloc _).alloc _
  have HC1 := Lib.hid (cmp_sd (hx.fr hf0) (hx'.fr hf0) h1 h1 (by omega))
  rw [sgn_eq] at HC1
  have HC2 : Hid (∀ u, Fr [] ((w.alloc (ob40 (.bool false) (.slice a n c) (.slice b m d))).alloc (ob40 (.bool false) (.slice a' n' c') (.slice b' m' d'))) u → Hid (Calls Tryz.prog 30 #[.slice b m d, .slice b' m' d'] u fun e w' => e = .returned (.int .i64 0) ∧ Fr [] u w')) := fun u hf => by
    have := cmp_sd (hy.fr (hf0.trans hf (by simp))) (hy'.fr (hf0.trans hf (by simp))) h2 h2 (by omega)
    rw [sgn_eq] at this
    exact this
  have HK : Hid (∀ u, Fr [] ((w.alloc (ob40 (.bool false) (.slice a n c) (.slice b m d))).alloc (ob40 (.bool false) (.slice a' n' c') (.slice b' m' d'))) u → u.cell? ⟨w.heap.size, 2, none⟩ = some (.slice b m d) ∧ u.cell? ⟨w.heap.size + 1, 2, none⟩ = some (.slice b' m' d')) := fun u hf => by
    have k1 := bk_cells (((Fr.refl [] (w.alloc (ob40 (.bool false) (.slice a n c) (.slice b m d)))).alloc _).trans hf (by simp))
    have k2 := bk_cells hf
    rw [World.size_alloc] at k2
    exact ⟨k1.2.2, k2.2.2⟩
  have HF0 := Lib.hid hf0
  clear hx hy hx' hy' hf0 h1 h2
  go_enter Tryz.func21, Tryz.ntmps21
  go_wp2_with (first | (go_at_call 30; refine HCB.out.mono ?_; rintro e w2 ⟨rfl, hf2⟩; have hf2 := Lib.hid hf2) | (go_at_call 30; refine HC1.out.mono ?_; rintro e w1 ⟨rfl, hf1⟩; have HCB := HC2.out w1 hf1; obtain ⟨k1, k2⟩ := HK.out w1 hf1; have hf1 := Lib.hid hf1))
  go_ret
  exact ⟨rfl, (HF0.out.trans hf1.out (by simp)).trans hf2.out (by simp)⟩
set_option maxRecDepth 100000 in
theorem isNumber_yes {w : World} {a b : Option Addr} {n c m d N : Nat} {W : List Int} (ha : SW w (.slice a n c) W) (nW : Nrm W) (hb : SD w (.slice b m d) (val W)) (hx : val W < PP N) (hN : N ≤ 10000) (hlW : W.length ≤ 100000) :
    Calls Tryz.prog 47 #[.agg #[.bool false, .slice a n c], .bool false, .slice b m d] w fun e w' => e = .returned (.bool true) ∧ Fr [] w w' := by
  have hf0 : Fr [] w (w.alloc (.cells #[.bool false, .slice a n c] 35)) := (Fr.refl [] w).alloc _
  have HW := Lib.hid (hasWords_yes (ha.fr hf0) nW (hb.fr hf0) hx hN hlW)
  have HF0 := Lib.hid hf0
  clear ha nW hb hx hf0
  go_enter Tryz.func47, Tryz.ntmps47
  go_wp2_with (go_at_call 48; refine HW.out.mono ?_; rintro e w1 ⟨rfl, hf1⟩; have hf1 := Lib.hid hf1)
  go_ret
  exact ⟨rfl, HF0.out.trans hf1.out (by simp)⟩
end Go.Proofs.YtfbbkngonohlkaaGreatDoor
/- The specification's fraction where it says yes. -/
namespace Go.Proofs.YtfbbkngonohlkaaGreatDoor
open Go Go.RowKit
set_option linter.unusedVariables false
set_option linter.unusedSimpArgs false
/-- A number boxed, and room for a fraction. -/
def fb (w : World) (x y : Value) : World := (w.alloc (.cells #[x, y] 35)).alloc z40
theorem fb_fr (w : World) (x y : Value) : Fr [] w (fb w x y) := ((Fr.refl [] w).alloc _).alloc _
theorem fb_box {w u : World} {x y : Value} {S : List Nat} (hf : Fr S (fb w x y) u) (hS : w.heap.size ∉ S) : u.cell? ⟨w.heap.size, 0, none⟩ = some x ∧ u.cell? ⟨w.heap.size, 1, none⟩ = some y := by
  have h1 : Bk (w.alloc (.cells #[x, y] 35)) w.heap.size 35 [x, y] := Bk.new w 35 _
  have g1 := hf.bk (h1.alloc z40) hS
  exact ⟨by rw [g1.cell]; rfl, by rw [g1.cell]; rfl⟩
theorem fb_bk {w u : World} {x y : Value} {S : List Nat} (hf : Fr S (fb w x y) u) (hS : w.heap.size + 1 ∉ S) : Bk u (w.heap.size + 1) 40 [.bool false, .slice none 0 0, .slice none 0 0] := by
  have h2 : Bk (fb w x y) (w.heap.size + 1) 40 [.bool false, .slice none 0 0, .slice none 0 0] := by
    have := Bk.new (w.alloc (.cells #[x, y] 35)) 40 [.bool false, .slice none 0 0, .slice none 0 0]
    rw [World.size_alloc] at this
    exact this
  exact hf.bk h2 hS
theorem fb_size (w : World) (x y : Value) : (fb w x y).heap.size = w.heap.size + 1 + 1 := by unfold fb; rw [World.size_alloc, World.size_alloc]
theorem Fr.undrew {u w : World} (h : Fr [] u.drew w) : Fr [] u w := (Fr.refl [] u).drew.trans h (by simp)
theorem zc {u0 w2 : World} {g : Nat} (hf : Fr [] (u0.alloc (.cells #[.bool false, .slice none 0 0, .slice none 0 0] 40)) w2) (hg : u0.heap.size = g) : w2.cell? ⟨g, 0, none⟩ = some (.bool false) ∧ w2.cell? ⟨g, 1, none⟩ = some (.slice none 0 0) ∧ w2.cell? ⟨g, 2, none⟩ = some (.slice none 0 0) ∧
    w2.frozen? ⟨g, 0, none⟩ = false ∧ w2.frozen? ⟨g, 1, none⟩ = false ∧ w2.frozen? ⟨g, 2, none⟩ = false ∧ Hid (Bk w2 g 40 [.bool false, .slice none 0 0, .slice none 0 0]) := by
  subst hg
  have h : Bk w2 u0.heap.size 40 [.bool false, .slice none 0 0, .slice none 0 0] := hf.bk (Bk.new u0 40 _) (by simp)
  exact ⟨by rw [h.cell]; rfl, by rw [h.cell]; rfl, by rw [h.cell]; rfl, h.free 0, h.free 1, h.free 2, h⟩
/-- Behind the fraction's laying down: where it lies. -/
structure FrQ (w wx : World) (x y : Value) (g : Nat) (s1 s2 : Value) (p q : Int) : Prop where
  bk : Bk wx g 40 [.bool false, s1, s2]
  g2 : w.heap.size + 1 + 1 ≤ g
  fr : Fr [] (fb w x y) wx
  d1 : SD wx s1 p
  d2 : SD wx s2 q
theorem FrQ.mk' {w w2 : World} {x y : Value} {g : Nat} {s1 s2 : Value} {p q : Int} (hb : Bk w2 g 40 [.bool false, .slice none 0 0, .slice none 0 0]) (hg : w.heap.size + 1 + 1 ≤ g) (hf : Fr [] (fb w x y) w2) (h1 : SD w2 s1 p) (h2 : SD w2 s2 q) :
    FrQ w (((w2.setCell ⟨g, 0, none⟩ (.bool false)).setCell ⟨g, 1, none⟩ s1).setCell ⟨g, 2, none⟩ s2) x y g s1 s2 p q :=
  ⟨hb.fill, hg, hf.fill (by rw [fb_size]; exact hg), h1.fill hb, h2.fill hb⟩
theorem FrQ.newC {w w2 : World} {x y : Value} {s1 s2 : Value} {p q : Int} (hg : w.heap.size + 1 + 1 ≤ w2.heap.size) (hf : Fr [] (fb w x y) w2) (h1 : SD w2 s1 p) (h2 : SD w2 s2 q) :
    FrQ w (w2.alloc (.cells #[.bool false, s1, s2] 40)) x y w2.heap.size s1 s2 p q :=
  ⟨Bk.new w2 40 _, hg, hf.alloc _, h1.fr ((Fr.refl [] w2).alloc _), h2.fr ((Fr.refl [] w2).alloc _)⟩
theorem SD.pos {w : World} {a : Option Addr} {n c : Nat} {x : Int} (h : SD w (.slice a n c) x) (hx : 0 < x) : 0 < n := by
  obtain ⟨a', n', c', e, h1, _⟩ := h.form
  cases e
  rcases Nat.eq_zero_or_pos n with h | h
  · have := h1.1 h; omega
  · exact h
set_option maxRecDepth 100000 in
set_option maxHeartbeats 400000 in
theorem fraction_yes {w : World} {a b : Option Addr} {n c m d N : Nat} {W V : List Int} (ha : SW w (.slice a n c) W) (nW : Nrm W) (hb : SW w (.slice b m d) V) (nV : Nrm V) (hv : 0 < val V) (hg : Int.gcd (val W) (val V) = 1) (hx : val W < PP N) (hy : val V < PP N) (hN : N ≤ 5000) (hlW : W.length ≤ 10000) (hlV : V.length ≤ 10000) :
    Calls Tryz.prog 29 #[.agg #[.bool false, .slice a n c], .slice b m d] w fun e w' => ∃ r, e = .returned (.tuple #[r, .bool true]) ∧ Hid (RV w' r (val W) (val V) ∧ Fr [] w w') := by
  have hf0 := fb_fr w (.bool false) (.slice a n c)
  have HC1 : Hid (∀ u, Fr [] (fb w (.bool false) (.slice a n c)) u → Hid (Calls Tryz.prog 5 #[.slice a n c] u fun e w' => ∃ a1 n1 c1, e = .returned (.slice a1 n1 c1) ∧ Hid (SD w' (.slice a1 n1 c1) (val W) ∧ Fr [] u w' ∧ Fr [] (fb w (.bool false) (.slice a n c)) w'))) := fun u hf => by
    refine (of_sl (ha.fr (hf0.trans hf (by simp))) hlW).mono ?_
    rintro e w' ⟨a1, n1, c1, rfl, h⟩
    exact ⟨a1, n1, c1, rfl, h.out.1, h.out.2, hf.trans h.out.2 (by simp)⟩
  have HC2 : Hid (∀ u, Fr [] (fb w (.bool false) (.slice a n c)) u → Hid (Calls Tryz.prog 5 #[.slice b m d] u fun e w' => ∃ a1 n1 c1, e = .returned (.slice a1 n1 c1) ∧ Hid (SD w' (.slice a1 n1 c1) (val V) ∧ Fr [] u w' ∧ Fr [] (fb w (.bool false) (.slice a n c)) w'))) := fun u hf => by
    refine (of_sl (hb.fr (hf0.trans hf (by simp))) hlV).mono ?_
    rintro e w' ⟨a1, n1, c1, rfl, h⟩
    exact ⟨a1, n1, c1, rfl, h.out.1, h.out.2, hf.trans h.out.2 (by simp)⟩
  have HKS : Hid (∀ u, Fr [] (fb w (.bool false) (.slice a n c)) u → u.cell? ⟨w.heap.size, 0, none⟩ = some (.bool false) ∧ u.cell? ⟨w.heap.size, 1, none⟩ = some (.slice a n c)) := fun u hf => fb_box hf (by simp)
  have HKF : Hid (∀ u g x y z, w.heap.size + 1 + 1 ≤ g → Fr [] (fb w (.bool false) (.slice a n c)) u → (((u.setCell ⟨g, 0, none⟩ x).setCell ⟨g, 1, none⟩ y).setCell ⟨g, 2, none⟩ z).cell? ⟨w.heap.size, 0, none⟩ = some (.bool false) ∧ (((u.setCell ⟨g, 0, none⟩ x).setCell ⟨g, 1, none⟩ y).setCell ⟨g, 2, none⟩ z).cell? ⟨w.heap.size, 1, none⟩ = some (.slice a n c)) := fun u g x y z hg hf => fb_box (hf.fill3) (by simp; omega)
  have HF0 := Lib.hid hf0
  go_enter Tryz.func29, Tryz.ntmps29
  go_upto_region 1 with (fail)
  go_cut [6] (fun t wx => ∃ g a1 n1 c1 a2 n2 c2, t = .pointer (some ⟨g, 0, none⟩) ∧ FrQ w wx (.bool false) (.slice a n c) g (.slice a1 n1 c1) (.slice a2 n2 c2) (val W) (val V))
  case first =>
    clear ha nW hb nV hv hg hx hy hf0
    go_region_held3 (fun u => u.cell? ⟨w.heap.size, 0, none⟩ = some (.bool false) ∧ u.cell? ⟨w.heap.size, 1, none⟩ = some (.slice a n c)) (first | exact HKS.out _ (Fr.refl _ _) | exact HKS.out _ (Fr.refl _ _).drew | exact HKS.out _ ((Fr.refl _ _).drew.alloc _) | exact HKS.out _ h1.out.2.2 | exact HKS.out _ (h1.out.2.2.alloc _) | exact HKS.out _ h2.out.2.2 | exact HKS.out _ (h2.out.2.2.alloc _) | exact HKF.out _ _ _ _ _ hgB.out h2.out.2.2 | exact HKF.out _ _ _ _ _ hgC.out (h2.out.2.2.alloc _)) (first | (have hh := h1.out; go_at_call 5; refine (HC2.out _ (by first | exact h1.out.2.2 | exact h1.out.2.2.alloc _)).out.mono ?_; rintro e w2 ⟨a2, n2, c2, rfl, h2⟩; have hzc := zc (g := w2.heap.size) (Fr.refl [] (w2.alloc (.cells #[.bool false, .slice none 0 0, .slice none 0 0] 40))) rfl; obtain ⟨p0, p1, p2, p3, p4, p5, hC⟩ := hzc; have hgC := Lib.hid (show w.heap.size + 1 + 1 ≤ w2.heap.size by have := h2.out.2.2.size; rw [fb_size] at this; exact this); (first | (have hz := zc (g := w1.heap.size) h2.out.2.1 rfl; obtain ⟨q0, q1, q2, q3, q4, q5, hB⟩ := hz; have hgB := Lib.hid (show w.heap.size + 1 + 1 ≤ w1.heap.size by have := h1.out.2.2.size; rw [fb_size] at this; exact this)) | (have hz := zc (g := w.heap.size + 1 + 1) ((Fr.undrew h1.out.2.1).trans h2.out.2.1 (by simp)) (fb_size w _ _); obtain ⟨q0, q1, q2, q3, q4, q5, hB⟩ := hz; have hgB := Lib.hid (Nat.le_refl (w.heap.size + 1 + 1))) | skip)) | (go_at_call 5; refine (HC1.out _ (by first | exact (Fr.refl _ _) | exact (Fr.refl _ _).drew | exact (Fr.refl _ _).drew.alloc _)).out.mono ?_; rintro e w1 ⟨a1, n1, c1, rfl, h1⟩))
    all_goals
      go_wp2_with fail
      go_meet
      case rel => first | exact ⟨_, _, _, _, _, _, _, rfl, FrQ.mk' hB.out hgB.out h2.out.2.2 (h1.out.1.fr h2.out.2.1) h2.out.1⟩ | exact ⟨_, _, _, _, _, _, _, rfl, FrQ.mk' hB.out hgB.out h2.out.2.2 (h1.out.1.fr (((Fr.refl [] w1).alloc _).trans h2.out.2.1 (by simp))) h2.out.1⟩ | exact ⟨_, _, _, _, _, _, _, rfl, FrQ.newC hgC.out h2.out.2.2 (h1.out.1.fr h2.out.2.1) h2.out.1⟩
  case rest =>
    obtain ⟨g, a1, n1, c1, a2, n2, c2, rfl, hQ⟩ := hcut
    obtain ⟨hbk, hg2, hfr, hd1, hd2⟩ := hQ
    have t0 := hbk.cell 0
    have t1 := hbk.cell 1
    have t2 := hbk.cell 2
    simp only [List.getElem?_cons_zero, List.getElem?_cons_succ] at t0 t1 t2
    obtain ⟨x0, x1⟩ := HKS.out wc hfr
    have hn2 := hd2.pos hv
    have HI := Lib.hid (isNumber_yes (N := N) ((ha.fr (hf0.trans hfr (by simp)))) nW hd1 hx (by omega) (by omega))
    have HH : Hid (∀ u, Fr [] wc u → Hid (Calls Tryz.prog 48 #[.slice b m d, .slice a2 n2 c2] u fun e w' => e = .returned (.bool true) ∧ Fr [] u w')) := fun u hf => hasWords_yes (N := N) (hb.fr ((hf0.trans hfr (by simp)).trans hf (by simp))) nV (hd2.fr hf) hy (by omega) (by omega)
    have HKG : Hid (∀ u, Fr [] wc u → u.cell? ⟨g, 0, none⟩ = some (.bool false) ∧ u.cell? ⟨g, 1, none⟩ = some (.slice a1 n1 c1) ∧ u.cell? ⟨g, 2, none⟩ = some (.slice a2 n2 c2)) := fun u hf => by
      have h := hf.bk hbk (by simp)
      exact ⟨by rw [h.cell]; rfl, by rw [h.cell]; rfl, by rw [h.cell]; rfl⟩
    have hd0 : ((n2 : Int) == 0) = false := beq_eq_false_iff_ne.2 (by omega)
    have HQ := Lib.hid (And.intro hbk (And.intro hg2 (And.intro hfr (And.intro hd1 hd2))))
    have HGC : Hid (∀ u, Fr [] wc u → Hid (Calls Tryz.prog 45 #[.slice a1 n1 c1, .slice a2 n2 c2] u fun e w' => ∃ a n c, e = .returned (.slice a n c) ∧ Hid (SD w' (.slice a n c) 1 ∧ Fr [] u w' ∧ Fr [] wc w'))) := fun u hf => by
      refine (gcd_sl (hd1.fr hf) (hd2.fr hf) hx hy hN).mono ?_
      rintro e w' ⟨a1, n1, c1, rfl, h⟩
      have h1 := h.out.1
      rw [hg] at h1
      exact ⟨a1, n1, c1, rfl, h1, h.out.2, hf.trans h.out.2 (by simp)⟩
    have HS1 : Hid (∀ u, Fr [] wc u → Hid (Calls Tryz.prog 19 #[.int .i64 1] u fun e w' => ∃ a n c, e = .returned (.slice a n c) ∧ Hid (SD w' (.slice a n c) 1 ∧ Fr [] u w' ∧ Fr [] wc w'))) := fun u hf => by
      refine (small_sl (by omega) (by omega)).mono ?_
      rintro e w' ⟨a1, n1, c1, rfl, h⟩
      exact ⟨a1, n1, c1, rfl, h.out.1, h.out.2, hf.trans h.out.2 (by simp)⟩
    have HCM : Hid (∀ u s1 s2, SD u s1 1 → SD u s2 1 → Fr [] wc u → Hid (Calls Tryz.prog 30 #[s1, s2] u fun e w' => e = .returned (.int .i64 0) ∧ Fr [] wc w')) := fun u s1 s2 q1 q2 hf => by
      have hN1 : (1 : Int) < PP N := by
        have := PP_mono (show 1 ≤ N from Nat.pos_of_ne_zero (fun h => by subst h; rw [PP_zero] at hy; omega))
        rw [PP_one] at this
        omega
      refine (cmp_sd q1 q2 hN1 hN1 (by omega)).mono ?_
      rintro e w' ⟨rfl, h⟩
      rw [sgn_eq]
      exact ⟨rfl, hf.trans h (by simp)⟩
    clear ha nW hb nV hv hg hx hy hf0 hbk hg2 hfr hd1 hd2
    go_wp2_with (first | (go_at_call 48; refine HHB.out.mono ?_; rintro e w2 ⟨rfl, hf2⟩; have hf2 := Lib.hid (hf1.out.trans hf2 (by simp)); obtain ⟨k0, k1, k2⟩ := HKG.out w2 hf2.out) | (go_at_call 47; refine HI.out.mono ?_; rintro e w1 ⟨rfl, hf1⟩; have HHB := HH.out w1 hf1; obtain ⟨j0, j1, j2⟩ := HKG.out w1 hf1; have hf1 := Lib.hid hf1))
    have HZ : Hid (∀ u, Fr [] wc u → u.cell? ⟨w.heap.size + 1, 0, none⟩ = some (.bool false) ∧ u.cell? ⟨w.heap.size + 1, 1, none⟩ = some (.slice none 0 0) ∧ u.cell? ⟨w.heap.size + 1, 2, none⟩ = some (.slice none 0 0) ∧ u.frozen? ⟨w.heap.size + 1, 0, none⟩ = false ∧ u.frozen? ⟨w.heap.size + 1, 1, none⟩ = false ∧ u.frozen? ⟨w.heap.size + 1, 2, none⟩ = false ∧ Hid (Bk u (w.heap.size + 1) 40 [.bool false, .slice none 0 0, .slice none 0 0])) := fun u hf => by
      have h := fb_bk (HQ.out.2.2.1.trans hf (by simp)) (by simp)
      exact ⟨by rw [h.cell]; rfl, by rw [h.cell]; rfl, by rw [h.cell]; rfl, h.free 0, h.free 1, h.free 2, h⟩
    have HKE : Hid (∀ u x y z, Fr [] wc u → (((u.setCell ⟨w.heap.size + 1, 0, none⟩ x).setCell ⟨w.heap.size + 1, 1, none⟩ y).setCell ⟨w.heap.size + 1, 2, none⟩ z).cell? ⟨g, 0, none⟩ = some (.bool false) ∧ (((u.setCell ⟨w.heap.size + 1, 0, none⟩ x).setCell ⟨w.heap.size + 1, 1, none⟩ y).setCell ⟨w.heap.size + 1, 2, none⟩ z).cell? ⟨g, 1, none⟩ = some (.slice a1 n1 c1) ∧ (((u.setCell ⟨w.heap.size + 1, 0, none⟩ x).setCell ⟨w.heap.size + 1, 1, none⟩ y).setCell ⟨w.heap.size + 1, 2, none⟩ z).cell? ⟨g, 2, none⟩ = some (.slice a2 n2 c2)) := fun u x y z hf => by
      have h := (hf.fill3 (g := w.heap.size + 1) (x' := x) (y' := y) (z' := z)).bk HQ.out.1 (by have := HQ.out.2.1; simp; omega)
      exact ⟨by rw [h.cell]; rfl, by rw [h.cell]; rfl, by rw [h.cell]; rfl⟩
    go_region_held3 (fun u => u.cell? ⟨g, 0, none⟩ = some (.bool false) ∧ u.cell? ⟨g, 1, none⟩ = some (.slice a1 n1 c1) ∧ u.cell? ⟨g, 2, none⟩ = some (.slice a2 n2 c2)) (first | exact HKG.out _ hf2.out | exact HKG.out _ hf2.out.drew | exact HKG.out _ h3.out.2.2 | exact HKG.out _ h4.out.2.2 | exact HKG.out _ hf5.out | exact HKE.out _ _ _ _ hf5.out) (first | (have hh := h4.out; go_at_call 30; refine (HCM.out _ _ _ (h3.out.1.fr h4.out.2.1) h4.out.1 h4.out.2.2).out.mono ?_; rintro e w5 ⟨rfl, hf5⟩; obtain ⟨z0, z1, z2, z3, z4, z5, hZB⟩ := HZ.out w5 hf5; have hf5 := Lib.hid hf5) | (have hh := h3.out; go_at_call 19; refine (HS1.out _ h3.out.2.2).out.mono ?_; rintro e w4 ⟨a4, n4, c4, rfl, h4⟩) | (go_at_call 45; refine (HGC.out _ (by first | exact hf2.out | exact hf2.out.drew)).out.mono ?_; rintro e w3 ⟨a3, n3, c3, rfl, h3⟩))
    all_goals
      go_wp2_with fail
      refine bodyPost_ret (ret40b rfl rfl hZB.out.fill) rfl ?_
      obtain ⟨y1, y2, y3, y4, y5⟩ := HQ.out
      have f5 := (HF0.out.trans y3 (by simp)).trans hf5.out (by simp)
      exact ⟨_, rfl, ⟨_, _, _, _, _, _, rfl, (y4.fr hf5.out).fill hZB.out, (y5.fr hf5.out).fill hZB.out⟩, f5.fill (by omega)⟩
end Go.Proofs.YtfbbkngonohlkaaGreatDoor
/- The specification's Pair, IsPair where they say yes. -/
namespace Go.Proofs.YtfbbkngonohlkaaGreatDoor
open Go Go.RowKit
set_option linter.unusedVariables false
set_option linter.unusedSimpArgs false
theorem fraction_sl {w : World} {a b : Option Addr} {n c m d N : Nat} {W V : List Int} (ha : SW w (.slice a n c) W) (nW : Nrm W) (hb : SW w (.slice b m d) V) (nV : Nrm V) (hv : 0 < val V) (hg : Int.gcd (val W) (val V) = 1) (hx : val W < PP N) (hy : val V < PP N) (hN : N ≤ 5000) (hlW : W.length ≤ 10000) (hlV : V.length ≤ 10000) :
    Calls Tryz.prog 29 #[.agg #[.bool false, .slice a n c], .slice b m d] w fun e w' => ∃ a n c a' n' c', e = .returned (.tuple #[.agg #[.bool false, .slice a n c, .slice a' n' c'], .bool true]) ∧ Hid (SD w' (.slice a n c) (val W) ∧ SD w' (.slice a' n' c') (val V) ∧ Fr [] w w') := by
  refine (fraction_yes ha nW hb nV hv hg hx hy hN hlW hlV).mono ?_
  rintro e w' ⟨r, rfl, h⟩
  obtain ⟨a, n, c, a', n', c', rfl, h1, h2⟩ := h.out.1
  exact ⟨a, n, c, a', n', c', rfl, h1, h2, h.out.2⟩
/-- A number's words and what is under it, as parts of a value: the words of x and y, in lowest terms. -/
structure Wp (w : World) (s t : Value) (x y : Int) (N : Nat) : Prop where
  ex : ∃ W V, SW w s W ∧ Nrm W ∧ val W = x ∧ SW w t V ∧ Nrm V ∧ val V = y ∧ W.length ≤ 10000 ∧ V.length ≤ 10000
  y0 : 0 < y
  cop : Int.gcd x y = 1
  xN : x < PP N
  yN : y < PP N
theorem Wp.fr {w w' : World} {s t : Value} {x y : Int} {N : Nat} (h : Wp w s t x y N) (hf : Fr [] w w') : Wp w' s t x y N := by
  obtain ⟨⟨W, V, h1, h2, h3, h4, h5, h6, h7, h8⟩, h9, h10, h11, h12⟩ := h
  exact ⟨⟨W, V, h1.fr hf, h2, h3, h4.fr hf, h5, h6, h7, h8⟩, h9, h10, h11, h12⟩
theorem Wp.frac {w : World} {a b : Option Addr} {n c m d N : Nat} {x y : Int} (h : Wp w (.slice a n c) (.slice b m d) x y N) (hN : N ≤ 5000) :
    Calls Tryz.prog 29 #[.agg #[.bool false, .slice a n c], .slice b m d] w fun e w' => ∃ a n c a' n' c', e = .returned (.tuple #[.agg #[.bool false, .slice a n c, .slice a' n' c'], .bool true]) ∧ Hid (SD w' (.slice a n c) x ∧ SD w' (.slice a' n' c') y ∧ Fr [] w w') := by
  obtain ⟨⟨W, V, h1, h2, rfl, h4, h5, rfl, h7, h8⟩, h9, h10, h11, h12⟩ := h
  exact fraction_sl h1 h2 h4 h5 h9 h10 h11 h12 hN h7 h8
theorem ret40c {fn : Func} {p q u : Tmp} (h : fn.results = #[.cell p 40, .cell q 40, .tmp u]) {tmps : Array Value} {w : World} {g g' : Nat} {x y z x' y' z' : Value} (hp : tmps.getD p undef = .pointer (some ⟨g, 0, none⟩)) (hq : tmps.getD q undef = .pointer (some ⟨g', 0, none⟩)) (hb : Bk w g 40 [x, y, z]) (hb' : Bk w g' 40 [x', y', z']) :
    (results fn tmps).run Tryz.prog w = .ok (.tuple #[.agg #[x, y, z], .agg #[x', y', z'], tmps.getD u undef]) w := by
  have hp' : tmps[p]?.getD undef = .pointer (some ⟨g, 0, none⟩) := by simpa using hp
  have hq' : tmps[q]?.getD undef = .pointer (some ⟨g', 0, none⟩) := by simpa using hq
  simp [results, h, hp', hq', asAddr, load40 hb, load40 hb']
theorem Fr.fillS {S : List Nat} {w w1 : World} {g : Nat} {x' y' z' : Value} (h : Fr S w w1) (hg : g ∈ S) : Fr S w (((w1.setCell ⟨g, 0, none⟩ x').setCell ⟨g, 1, none⟩ y').setCell ⟨g, 2, none⟩ z') :=
  ((h.set _ _ (.inl hg)).set _ _ (.inl hg)).set _ _ (.inl hg)
/-- A value boxed, and room for two fractions. -/
def pb (w : World) (B : Array Value) : World := ((w.alloc (.cells B 37)).alloc z40).alloc z40
theorem pb_fr (w : World) (B : Array Value) : Fr [] w (pb w B) := (((Fr.refl [] w).alloc _).alloc _).alloc _
theorem pb_box {w u : World} {B : Array Value} {S : List Nat} (hf : Fr S (pb w B) u) (hS : w.heap.size ∉ S) (i : Nat) : u.cell? ⟨w.heap.size, i, none⟩ = B.toList[i]? := by
  have h1 : Bk (w.alloc (.cells B 37)) w.heap.size 37 B.toList := Bk.newA w 37 B
  have g1 := hf.bk ((h1.alloc z40).alloc z40) hS
  exact g1.cell i
theorem pb_bk {w u : World} {B : Array Value} {S : List Nat} (hf : Fr S (pb w B) u) (hS : w.heap.size + 1 ∉ S) : Bk u (w.heap.size + 1) 40 [.bool false, .slice none 0 0, .slice none 0 0] := by
  have h2 : Bk ((w.alloc (.cells B 37)).alloc z40) (w.heap.size + 1) 40 [.bool false, .slice none 0 0, .slice none 0 0] := by
    have := Bk.new (w.alloc (.cells B 37)) 40 [.bool false, .slice none 0 0, .slice none 0 0]
    rw [World.size_alloc] at this
    exact this
  exact hf.bk (h2.alloc z40) hS
theorem pb_bk2 {w u : World} {B : Array Value} {S : List Nat} (hf : Fr S (pb w B) u) (hS : w.heap.size + 1 + 1 ∉ S) : Bk u (w.heap.size + 1 + 1) 40 [.bool false, .slice none 0 0, .slice none 0 0] := by
  have h2 : Bk (pb w B) (w.heap.size + 1 + 1) 40 [.bool false, .slice none 0 0, .slice none 0 0] := by
    have := Bk.new ((w.alloc (.cells B 37)).alloc z40) 40 [.bool false, .slice none 0 0, .slice none 0 0]
    rw [World.size_alloc, World.size_alloc] at this
    exact this
  exact hf.bk h2 hS
theorem pb_size (w : World) (B : Array Value) : (pb w B).heap.size = w.heap.size + 1 + 1 + 1 := by unfold pb; rw [World.size_alloc, World.size_alloc, World.size_alloc]
theorem bk3 {u : World} {g : Nat} {x y z : Value} (h : Bk u g 40 [x, y, z]) : u.cell? ⟨g, 0, none⟩ = some x ∧ u.cell? ⟨g, 1, none⟩ = some y ∧ u.cell? ⟨g, 2, none⟩ = some z ∧ u.frozen? ⟨g, 0, none⟩ = false ∧ u.frozen? ⟨g, 1, none⟩ = false ∧ u.frozen? ⟨g, 2, none⟩ = false :=
  ⟨by rw [h.cell]; rfl, by rw [h.cell]; rfl, by rw [h.cell]; rfl, h.free 0, h.free 1, h.free 2⟩
def pA (a b a' b' : Option Addr) (n c m d n' c' m' d' : Nat) : Array Value := #[.int .i64 5, .bool false, .string ⟨#[]⟩, .bool false, .slice a n c, .slice b m d, .bool false, .slice a' n' c', .slice b' m' d']
set_option maxRecDepth 100000 in
set_option maxHeartbeats 400000 in
theorem pair_yes {w : World} {a b a' b' : Option Addr} {n c m d n' c' m' d' N : Nat} {x y p q : Int} (h1 : Wp w (.slice a n c) (.slice b m d) x y N) (h2 : Wp w (.slice a' n' c') (.slice b' m' d') p q N) (hN : N ≤ 5000) :
    Calls Tryz.prog 27 #[.agg #[.int .i64 5, .bool false, .string ⟨#[]⟩, .bool false, .slice a n c, .slice b m d, .bool false, .slice a' n' c', .slice b' m' d']] w fun e w' =>
      ∃ a n c b m d a' n' c' b' m' d', e = .returned (.tuple #[.agg #[.bool false, .slice a n c, .slice b m d], .agg #[.bool false, .slice a' n' c', .slice b' m' d'], .bool true]) ∧ Hid (SD w' (.slice a n c) x ∧ SD w' (.slice b m d) y ∧ SD w' (.slice a' n' c') p ∧ SD w' (.slice b' m' d') q ∧ Fr [] w w') := by
  have hf0 := pb_fr w (pA a b a' b' n c m d n' c' m' d')
  have HC1 := Lib.hid ((h1.fr hf0).frac hN)
  have HC2 : Hid (∀ u, Fr [] (pb w (pA a b a' b' n c m d n' c' m' d')) u → Hid (Calls Tryz.prog 29 #[.agg #[.bool false, .slice a' n' c'], .slice b' m' d'] u fun e w' => ∃ a n c a' n' c', e = .returned (.tuple #[.agg #[.bool false, .slice a n c, .slice a' n' c'], .bool true]) ∧ Hid (SD w' (.slice a n c) p ∧ SD w' (.slice a' n' c') q ∧ Fr [] u w'))) := fun u hf => (h2.fr (hf0.trans hf (by simp))).frac hN
  have HBX : Hid (∀ u, Fr [] (pb w (pA a b a' b' n c m d n' c' m' d')) u → u.cell? ⟨w.heap.size, 6, none⟩ = some (.bool false) ∧ u.cell? ⟨w.heap.size, 7, none⟩ = some (.slice a' n' c') ∧ u.cell? ⟨w.heap.size, 8, none⟩ = some (.slice b' m' d')) := fun u hf => ⟨pb_box hf (by simp) 6, pb_box hf (by simp) 7, pb_box hf (by simp) 8⟩
  have HF0 := Lib.hid hf0
  clear hf0 h1 h2
  go_enter Tryz.func27, Tryz.ntmps27
  go_wp2_with (first | (have hh := h1.out; go_at_call 29; refine HCB.out.mono ?_; rintro e w2 ⟨a2, n2, c2, b2, m2, d2, rfl, h2⟩; have hzc2 := zc (g := w2.heap.size) (Fr.refl [] (w2.alloc (.cells #[.bool false, .slice none 0 0, .slice none 0 0] 40))) rfl; obtain ⟨r0, r1, r2, r3, r4, r5, hD⟩ := hzc2) | (go_at_call 29; refine HC1.out.mono ?_; rintro e w1 ⟨a1, n1, c1, b1, m1, d1, rfl, h1⟩; have hzc := zc (g := w1.heap.size) (Fr.refl [] (w1.alloc (.cells #[.bool false, .slice none 0 0, .slice none 0 0] 40))) rfl; obtain ⟨p0, p1, p2, p3, p4, p5, hC⟩ := hzc; have hxx := HBX.out (w1.alloc (.cells #[.bool false, .slice a1 n1 c1, .slice b1 m1 d1] 40)) (h1.out.2.2.alloc _); obtain ⟨x6, x7, x8⟩ := hxx; have HCB := HC2.out (w1.alloc (.cells #[.bool false, .slice a1 n1 c1, .slice b1 m1 d1] 40)) (h1.out.2.2.alloc _)))
  have f3 : Fr [] (pb w (pA a b a' b' n c m d n' c' m' d')) (w2.alloc (.cells #[.bool false, .slice a2 n2 c2, .slice b2 m2 d2] 40)) := ((h1.out.2.2.alloc _).trans h2.out.2.2 (by simp)).alloc _
  have k5 : Bk (w2.alloc (.cells #[.bool false, .slice a2 n2 c2, .slice b2 m2 d2] 40)) w1.heap.size 40 [.bool false, .slice a1 n1 c1, .slice b1 m1 d1] := (h2.out.2.2.bk (Bk.new w1 40 _) (by simp)).alloc _
  have k7 : Bk (w2.alloc (.cells #[.bool false, .slice a2 n2 c2, .slice b2 m2 d2] 40)) w2.heap.size 40 [.bool false, .slice a2 n2 c2, .slice b2 m2 d2] := Bk.new w2 40 _
  have k2 := pb_bk f3 (by simp)
  have k3 := pb_bk2 f3 (by simp)
  have hs1 : w.heap.size + 1 + 1 + 1 ≤ w1.heap.size := by have := h1.out.2.2.size; rw [pb_size] at this; exact this
  have hs2 : w1.heap.size + 1 ≤ w2.heap.size := by have := h2.out.2.2.size; rw [World.size_alloc] at this; exact this
  obtain ⟨y0, y1, y2, y3, y4, y5⟩ := bk3 k2
  obtain ⟨z0, z1, z2, z3, z4, z5⟩ := bk3 k3
  have e1 : SD (w2.alloc (.cells #[.bool false, .slice a2 n2 c2, .slice b2 m2 d2] 40)) (.slice a1 n1 c1) x := h1.out.1.fr ((((Fr.refl [] w1).alloc _).trans h2.out.2.2 (by simp)).alloc _)
  have e2 : SD (w2.alloc (.cells #[.bool false, .slice a2 n2 c2, .slice b2 m2 d2] 40)) (.slice b1 m1 d1) y := h1.out.2.1.fr ((((Fr.refl [] w1).alloc _).trans h2.out.2.2 (by simp)).alloc _)
  have e3 : SD (w2.alloc (.cells #[.bool false, .slice a2 n2 c2, .slice b2 m2 d2] 40)) (.slice a2 n2 c2) p := h2.out.1.fr ((Fr.refl [] w2).alloc _)
  have e4 : SD (w2.alloc (.cells #[.bool false, .slice a2 n2 c2, .slice b2 m2 d2] 40)) (.slice b2 m2 d2) q := h2.out.2.1.fr ((Fr.refl [] w2).alloc _)
  have HK := Lib.hid (And.intro f3 (And.intro k5 (And.intro k7 (And.intro k2 (And.intro k3 (And.intro hs1 (And.intro hs2 (And.intro e1 (And.intro e2 (And.intro e3 e4))))))))))
  have HA : Hid (∀ u, Fr [w.heap.size + 1, w.heap.size + 1 + 1] (w2.alloc (.cells #[.bool false, .slice a2 n2 c2, .slice b2 m2 d2] 40)) u → u.cell? ⟨w1.heap.size, 0, none⟩ = some (.bool false) ∧ u.cell? ⟨w1.heap.size, 1, none⟩ = some (.slice a1 n1 c1) ∧ u.cell? ⟨w1.heap.size, 2, none⟩ = some (.slice b1 m1 d1) ∧ u.cell? ⟨w2.heap.size, 0, none⟩ = some (.bool false) ∧ u.cell? ⟨w2.heap.size, 1, none⟩ = some (.slice a2 n2 c2) ∧ u.cell? ⟨w2.heap.size, 2, none⟩ = some (.slice b2 m2 d2)) := fun u hf => by
    have g1 := hf.bk k5 (by simp; omega)
    have g2 := hf.bk k7 (by simp; omega)
    exact ⟨by rw [g1.cell]; rfl, by rw [g1.cell]; rfl, by rw [g1.cell]; rfl, by rw [g2.cell]; rfl, by rw [g2.cell]; rfl, by rw [g2.cell]; rfl⟩
  clear f3 k5 k7 k2 k3 hs1 hs2 e1 e2 e3 e4 hC hD h1 h2 r0 r1 r2 r3 r4 r5 p0 p1 p2 p3 p4 p5 x6 x7 x8 HCB
  generalize hw3 : w2.alloc (.cells #[.bool false, .slice a2 n2 c2, .slice b2 m2 d2] 40) = w3 at *
  clear hw3
  go_region_held3 (fun u => u.cell? ⟨w1.heap.size, 0, none⟩ = some (.bool false) ∧ u.cell? ⟨w1.heap.size, 1, none⟩ = some (.slice a1 n1 c1) ∧ u.cell? ⟨w1.heap.size, 2, none⟩ = some (.slice b1 m1 d1) ∧ u.cell? ⟨w2.heap.size, 0, none⟩ = some (.bool false) ∧ u.cell? ⟨w2.heap.size, 1, none⟩ = some (.slice a2 n2 c2) ∧ u.cell? ⟨w2.heap.size, 2, none⟩ = some (.slice b2 m2 d2)) (first | (refine HA.out _ ?_; repeat (first | (with_reducible exact Fr.refl _ _) | (with_reducible refine Fr.drew ?_) | (with_reducible refine Fr.set ?_ _ _ (Or.inl (by simp)))))) (first | fail)
  all_goals
    go_wp2_with fail
    obtain ⟨f3, k5, k7, k2, k3, hs1, hs2, e1, e2, e3, e4⟩ := HK.out
    have k2' := k2.fill (x' := .bool false) (y' := .slice a1 n1 c1) (z' := .slice b1 m1 d1)
    have k3' := ((k3.set_ne ⟨w.heap.size + 1, 0, none⟩ (.bool false) (by simp)).set_ne ⟨w.heap.size + 1, 1, none⟩ (.slice a1 n1 c1) (by simp)).set_ne ⟨w.heap.size + 1, 2, none⟩ (.slice b1 m1 d1) (by simp)
    have k2'' := ((k2'.set_ne ⟨w.heap.size + 1 + 1, 0, none⟩ (.bool false) (by simp)).set_ne ⟨w.heap.size + 1 + 1, 1, none⟩ (.slice a2 n2 c2) (by simp)).set_ne ⟨w.heap.size + 1 + 1, 2, none⟩ (.slice b2 m2 d2) (by simp)
    refine bodyPost_ret (ret40c rfl rfl rfl k2''.drew k3'.fill.drew) rfl ?_
    exact ⟨_, _, _, _, _, _, _, _, _, _, _, _, rfl, ((e1.fill k2).fill k3').fr (Fr.refl [] _).drew, ((e2.fill k2).fill k3').fr (Fr.refl [] _).drew, ((e3.fill k2).fill k3').fr (Fr.refl [] _).drew, ((e4.fill k2).fill k3').fr (Fr.refl [] _).drew, (((HF0.out.trans f3 (by simp)).fill (by omega)).fill (by omega)).drew⟩
end Go.Proofs.YtfbbkngonohlkaaGreatDoor
/- The specification's IsPair where it says yes. -/
namespace Go.Proofs.YtfbbkngonohlkaaGreatDoor
open Go Go.RowKit
set_option linter.unusedVariables false
set_option linter.unusedSimpArgs false
/-- Three values boxed. -/
def ib (w : World) (B : Array Value) (x y z x' y' z' : Value) : World := ((w.alloc (.cells B 37)).alloc (ob40 x y z)).alloc (ob40 x' y' z')
theorem ib_fr (w : World) (B : Array Value) (x y z x' y' z' : Value) : Fr [] w (ib w B x y z x' y' z') := (((Fr.refl [] w).alloc _).alloc _).alloc _
theorem ib_1 {w u : World} {B : Array Value} {x y z x' y' z' : Value} (hf : Fr [] (ib w B x y z x' y' z') u) : Bk u (w.heap.size + 1) 40 [x, y, z] := by
  have h2 : Bk ((w.alloc (.cells B 37)).alloc (ob40 x y z)) (w.heap.size + 1) 40 [x, y, z] := by
    have := Bk.new (w.alloc (.cells B 37)) 40 [x, y, z]
    rw [World.size_alloc] at this
    exact this
  exact hf.bk (h2.alloc _) (by simp)
theorem ib_2 {w u : World} {B : Array Value} {x y z x' y' z' : Value} (hf : Fr [] (ib w B x y z x' y' z') u) : Bk u (w.heap.size + 1 + 1) 40 [x', y', z'] := by
  have h2 : Bk (ib w B x y z x' y' z') (w.heap.size + 1 + 1) 40 [x', y', z'] := by
    have := Bk.new ((w.alloc (.cells B 37)).alloc (ob40 x y z)) 40 [x', y', z']
    rw [World.size_alloc, World.size_alloc] at this
    exact this
  exact hf.bk h2 (by simp)
set_option maxRecDepth 100000 in
set_option maxHeartbeats 400000 in
theorem isPair_yes {w : World} {a b a' b' a3 b3 a4 b4 : Option Addr} {n c m d n' c' m' d' n3 c3 m3 d3 n4 c4 m4 d4 N : Nat} {x y p q : Int} (h1 : Wp w (.slice a n c) (.slice b m d) x y N) (h2 : Wp w (.slice a' n' c') (.slice b' m' d') p q N)
    (h3 : SD w (.slice a3 n3 c3) x) (h4 : SD w (.slice b3 m3 d3) y) (h5 : SD w (.slice a4 n4 c4) p) (h6 : SD w (.slice b4 m4 d4) q) (hN : N ≤ 5000) :
    Calls Tryz.prog 15 #[.agg #[.int .i64 5, .bool false, .string ⟨#[]⟩, .bool false, .slice a n c, .slice b m d, .bool false, .slice a' n' c', .slice b' m' d'], .agg #[.bool false, .slice a3 n3 c3, .slice b3 m3 d3], .agg #[.bool false, .slice a4 n4 c4, .slice b4 m4 d4]] w fun e w' => e = .returned (.bool true) := by
  have hf0 := ib_fr w (pA a b a' b' n c m d n' c' m' d') (.bool false) (.slice a3 n3 c3) (.slice b3 m3 d3) (.bool false) (.slice a4 n4 c4) (.slice b4 m4 d4)
  have HP := Lib.hid (pair_yes (h1.fr hf0) (h2.fr hf0) hN)
  have HX : Hid (∀ w1 O1 O2, Fr [] (ib w (pA a b a' b' n c m d n' c' m' d') (.bool false) (.slice a3 n3 c3) (.slice b3 m3 d3) (.bool false) (.slice a4 n4 c4) (.slice b4 m4 d4)) w1 → Fr [] (ib w (pA a b a' b' n c m d n' c' m' d') (.bool false) (.slice a3 n3 c3) (.slice b3 m3 d3) (.bool false) (.slice a4 n4 c4) (.slice b4 m4 d4)) ((w1.alloc O1).alloc O2)) := fun w1 O1 O2 hf => (hf.alloc _).alloc _
  have HB1 : Hid (∀ u, Fr [] (ib w (pA a b a' b' n c m d n' c' m' d') (.bool false) (.slice a3 n3 c3) (.slice b3 m3 d3) (.bool false) (.slice a4 n4 c4) (.slice b4 m4 d4)) u → u.cell? ⟨w.heap.size + 1, 0, none⟩ = some (.bool false) ∧ u.cell? ⟨w.heap.size + 1, 1, none⟩ = some (.slice a3 n3 c3) ∧ u.cell? ⟨w.heap.size + 1, 2, none⟩ = some (.slice b3 m3 d3)) := fun u hf => by
    obtain ⟨g1, g2, g3, _⟩ := bk3 (ib_1 hf)
    exact ⟨g1, g2, g3⟩
  have HB2 : Hid (∀ u, Fr [] (ib w (pA a b a' b' n c m d n' c' m' d') (.bool false) (.slice a3 n3 c3) (.slice b3 m3 d3) (.bool false) (.slice a4 n4 c4) (.slice b4 m4 d4)) u → u.cell? ⟨w.heap.size + 1 + 1, 0, none⟩ = some (.bool false) ∧ u.cell? ⟨w.heap.size + 1 + 1, 1, none⟩ = some (.slice a4 n4 c4) ∧ u.cell? ⟨w.heap.size + 1 + 1, 2, none⟩ = some (.slice b4 m4 d4)) := fun u hf => by
    obtain ⟨g1, g2, g3, _⟩ := bk3 (ib_2 hf)
    exact ⟨g1, g2, g3⟩
  have HS1 : Hid (∀ u a5 n5 c5 b5 m5 d5, SD u (.slice a5 n5 c5) x → SD u (.slice b5 m5 d5) y → Fr [] (ib w (pA a b a' b' n c m d n' c' m' d') (.bool false) (.slice a3 n3 c3) (.slice b3 m3 d3) (.bool false) (.slice a4 n4 c4) (.slice b4 m4 d4)) u → Hid (Calls Tryz.prog 21 #[.agg #[.bool false, .slice a5 n5 c5, .slice b5 m5 d5], .agg #[.bool false, .slice a3 n3 c3, .slice b3 m3 d3]] u fun e w' => e = .returned (.bool true) ∧ Fr [] u w')) := fun u a5 n5 c5 b5 m5 d5 g1 g2 hf => same_yes g1 g2 (h3.fr (hf0.trans hf (by simp))) (h4.fr (hf0.trans hf (by simp))) h1.xN h1.yN hN
  have HS2 : Hid (∀ u a5 n5 c5 b5 m5 d5, SD u (.slice a5 n5 c5) p → SD u (.slice b5 m5 d5) q → Fr [] (ib w (pA a b a' b' n c m d n' c' m' d') (.bool false) (.slice a3 n3 c3) (.slice b3 m3 d3) (.bool false) (.slice a4 n4 c4) (.slice b4 m4 d4)) u → Hid (Calls Tryz.prog 21 #[.agg #[.bool false, .slice a5 n5 c5, .slice b5 m5 d5], .agg #[.bool false, .slice a4 n4 c4, .slice b4 m4 d4]] u fun e w' => e = .returned (.bool true) ∧ Fr [] u w')) := fun u a5 n5 c5 b5 m5 d5 g1 g2 hf => same_yes g1 g2 (h5.fr (hf0.trans hf (by simp))) (h6.fr (hf0.trans hf (by simp))) h2.xN h2.yN hN
  have HF8 : Hid (∀ (w1 w2 : World) O1 x y z, Fr [] ((w1.alloc O1).alloc (.cells #[x, y, z] 40)) w2 → w2.cell? ⟨w1.heap.size + 1, 0, none⟩ = some x ∧ w2.cell? ⟨w1.heap.size + 1, 1, none⟩ = some y ∧ w2.cell? ⟨w1.heap.size + 1, 2, none⟩ = some z) := fun w1 w2 O1 x y z hf => by
    have h := Bk.new (w1.alloc O1) 40 [x, y, z]
    rw [World.size_alloc] at h
    obtain ⟨g1, g2, g3, _⟩ := bk3 (hf.bk h (by simp))
    exact ⟨g1, g2, g3⟩
  clear hf0 h1 h2 h3 h4 h5 h6
  go_enter Tryz.func15, Tryz.ntmps15
  go_wp2_with (first | (have hh := hf2.out; go_at_call 21; refine HCB.out.mono ?_; rintro e w3 ⟨rfl, hf3⟩; have hf3 := Lib.hid hf3) | (have hh := hp.out; go_at_call 21; refine HCA.out.mono ?_; rintro e w2 ⟨rfl, hf2⟩; have hb2 := HB2.out w2 (hfX.out.trans hf2 (by simp)); obtain ⟨j0, j1, j2⟩ := hb2; have h8 := HF8.out w1 w2 _ _ _ _ hf2; obtain ⟨i0, i1, i2⟩ := h8; have HCB := HS2.out w2 a6 n6 c6 b6 m6 d6 (hp.out.2.2.1.fr ((((Fr.refl [] w1).alloc _).alloc _).trans hf2 (by simp))) (hp.out.2.2.2.1.fr ((((Fr.refl [] w1).alloc _).alloc _).trans hf2 (by simp))) (hfX.out.trans hf2 (by simp)); have hf2 := Lib.hid hf2) | (go_at_call 27; refine HP.out.mono ?_; rintro e w1 ⟨a5, n5, c5, b5, m5, d5, a6, n6, c6, b6, m6, d6, rfl, hp⟩; have hfX := Lib.hid (HX.out w1 (.cells #[.bool false, .slice a5 n5 c5, .slice b5 m5 d5] 40) (.cells #[.bool false, .slice a6 n6 c6, .slice b6 m6 d6] 40) hp.out.2.2.2.2); have hb1 := HB1.out _ hfX.out; obtain ⟨k0, k1, k2⟩ := hb1; have HCA := HS1.out _ a5 n5 c5 b5 m5 d5 (hp.out.1.fr (((Fr.refl [] w1).alloc _).alloc _)) (hp.out.2.1.fr (((Fr.refl [] w1).alloc _).alloc _)) hfX.out))
  go_ret
  rfl
end Go.Proofs.YtfbbkngonohlkaaGreatDoor
