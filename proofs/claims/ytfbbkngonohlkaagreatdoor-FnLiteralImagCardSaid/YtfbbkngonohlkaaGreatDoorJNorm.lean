/- Joined texts: Norm0, Norm1. -/
import Derived.Test.YtfbbkngonohlkaaGreatDoorJLeh
import Derived.Defers
import Derived.Deep.RegionWith
import Derived.Deep.RegionHeld3
import Derived.BigRegion
/- Rat.norm of nothing. -/
namespace Go.Proofs.YtfbbkngonohlkaaGreatDoor
open Go Go.RowKit
set_option linter.unusedVariables false
set_option linter.unusedSimpArgs false
/-- The Rat in block rb. -/
structure RatB (w : World) (rb : Nat) (na nb : Bool) (va vb' : Value) (A B : List Int) : Prop where
  bk : Bk w rb 160 [.bool na, va, .bool nb, vb']
  av : NatV w va A
  bv : NatV w vb' B
  an : Nrm A
  bn : Nrm B
  apa : rb ∉ vb va
  apb : rb ∉ vb vb'
  dj : ∀ k, k ∈ vb va → k ∉ vb vb'
  ca : capOf va ≤ 9223372036854775807
  cb : capOf vb' ≤ 9223372036854775807
set_option maxRecDepth 100000 in
theorem norm_zero {w : World} {rb : Nat} {na nb : Bool} {va vb' : Value} {B : List Int} (h : RatB w rb na nb va vb' [] B) :
    Calls Tryz.prog 88 #[.pointer (some ⟨rb, 0, none⟩)] w fun e w' => ∃ vb2, e = .returned (.pointer (some ⟨rb, 0, none⟩)) ∧ RatB w' rb false nb va vb2 [] [1] ∧ Fr (rb :: vb vb') w w' := by
  obtain ⟨aA, cA, rfl, hcA⟩ := h.av.form
  obtain ⟨aB, cB, rfl, hcB⟩ := h.bv.form
  have c1 : w.cell? ⟨rb, 1, none⟩ = some (.slice aA 0 cA) := by rw [h.bk.cell]; rfl
  have c3 : w.cell? ⟨rb, 3, none⟩ = some (.slice aB B.length cB) := by rw [h.bk.cell]; rfl
  have c0 : w.cell? ⟨rb, 0, none⟩ = some (.bool na) := by rw [h.bk.cell]; rfl
  have f0 := h.bk.free 0
  have f3 := h.bk.free 3
  have H := Lib.hid h
  have HS := Lib.hid (setWord_any (x := 1) (h.bv.fr (S := [rb]) ((Fr.refl [rb] w).set ⟨rb, 0, none⟩ (.bool false) (by simp)) (fun k hk hm => by have := h.apb; simp at hm; subst hm; exact this hk)) ⟨by omega, by omega⟩)
  clear h
  have HK : Hid (∀ w1 (v : World), Fr (vb (.slice aB B.length cB)) (w.setCell ⟨rb, 0, none⟩ (.bool false)) w1 → Hid (Bk w1 rb 160 [.bool false, .slice aA 0 cA, .bool nb, .slice aB B.length cB]) ∧ w1.cell? ⟨rb, 3, none⟩ = some (.slice aB B.length cB) ∧ w1.frozen? ⟨rb, 3, none⟩ = false) := fun w1 v hf => by
    have h1 := hf.bk (H.out.bk.set 0 (.bool false)) H.out.apb
    exact ⟨h1, by rw [h1.cell]; rfl, h1.free 3⟩
  go_enter_defers Tryz.func88, Tryz.ntmps88
  go_wp2_with (go_at_call 110; refine HS.out.mono ?_; rintro e w1 ⟨v, l, rfl, h1⟩; have hform := h1.1.form; obtain ⟨a1, c1', rfl, hc1'⟩ := hform; have hk := HK.out w1 w1 h1.2.2.2.1; obtain ⟨k0, k1, k2⟩ := hk; have h1 := Lib.hid h1)
  obtain ⟨g1, g2, g3, g4, g5, g6⟩ := h1.out
  have hlt := H.out.bk.lt
  have hl1 : l = [1] := nrm_inj g2 (Nrm.single (by omega)) g1.ws (Ws.single (by omega) (by omega)) (by rw [g3, val_single])
  have hb2 := k0.out.set 3 (.slice a1 l.length c1')
  have hsz : (w.setCell ⟨rb, 0, none⟩ (.bool false)).heap.size = w.heap.size := World.size_setCell ..
  have hrb : ∀ k, k ∈ vb (.slice a1 l.length c1') → k ≠ rb ∧ k ∉ vb (.slice aA 0 cA) := fun k hk => by
    rcases g5 k hk with h | h
    · exact ⟨fun e => by subst e; exact H.out.apb h, fun e => H.out.dj k e h⟩
    · rw [hsz] at h
      exact ⟨by omega, fun e => by have := H.out.av.lt k e; omega⟩
  have hav : NatV (w1.setCell ⟨rb, 3, none⟩ (.slice a1 l.length c1')) (.slice aA 0 cA) [] := by
    have h5 := H.out.av.fr (S := [rb]) ((Fr.refl [rb] w).set ⟨rb, 0, none⟩ (.bool false) (by simp)) (fun k hk hm => by have := H.out.apa; simp at hm; subst hm; exact this hk)
    have h6 := h5.fr g4 (fun k hk => H.out.dj k hk)
    exact h6.fr (S := [rb]) ((Fr.refl [rb] w1).set _ _ (by simp)) (fun k hk hm => by have := H.out.apa; simp at hm; subst hm; exact this hk)
  have hbv : NatV (w1.setCell ⟨rb, 3, none⟩ (.slice a1 l.length c1')) (.slice a1 l.length c1') [1] := by
    rw [← hl1]
    exact g1.fr (S := [rb]) ((Fr.refl [rb] w1).set _ _ (by simp)) (fun k hk hm => by have := (hrb k hk).1; simp at hm; exact this hm)
  refine ⟨_, results_tmp rfl _ _ _, .slice a1 l.length c1', rfl, ⟨hb2, hav, hbv, Nrm.nil, Nrm.single (by omega), H.out.apa, fun h => (hrb _ h).1 rfl, fun k hk hk2 => (hrb k hk2).2 hk, H.out.ca, g6 H.out.cb⟩, ?_⟩
  exact (((Fr.refl (rb :: vb (.slice aB B.length cB)) w).set _ _ (by simp)).trans g4 (fun x hx => .inl (List.mem_cons_of_mem _ hx))).set _ _ (by simp)
end Go.Proofs.YtfbbkngonohlkaaGreatDoor
/- Rat.norm of a fraction, one of its numbers one word. -/
namespace Go.Proofs.YtfbbkngonohlkaaGreatDoor
open Go Go.RowKit
set_option linter.unusedVariables false
set_option linter.unusedSimpArgs false
theorem free_d {w : World} {b : Nat} (u : FrameMode) (h : Bk w b 240 [.pointer none]) : CallsD Tryz.prog 107 #[.pointer (some ⟨b, 0, none⟩)] u w fun e u' w' => u' = u ∧ (e = .returned (.tuple #[]) ∧ w' = w) := by
  have h0 : w.cell? ⟨b, 0, none⟩ = some (.pointer none) := by rw [h.cell]; rfl
  go_enter_d Tryz.func107, Tryz.ntmps107
  go_wp2
  go_end0
  exact ⟨rfl, rfl⟩
theorem RatB.ca' {w : World} {rb : Nat} {na nb : Bool} {va vb' : Value} {A B : List Int} (h : RatB w rb na nb va vb' A B) : IntC w rb 0 na va A :=
  ⟨by rw [h.bk.cell]; rfl, by rw [h.bk.cell]; rfl, h.av, h.bk.lt, h.apa⟩
theorem RatB.cb' {w : World} {rb : Nat} {na nb : Bool} {va vb' : Value} {A B : List Int} (h : RatB w rb na nb va vb' A B) : IntC w rb 2 nb vb' B :=
  ⟨by rw [h.bk.cell]; rfl, by rw [h.bk.cell]; rfl, h.bv, h.bk.lt, h.apb⟩
theorem RatB.fr {S : List Nat} {w w' : World} {rb : Nat} {na nb : Bool} {va vb' : Value} {A B : List Int} (h : RatB w rb na nb va vb' A B) (hf : Fr S w w') (h1 : rb ∉ S) (h2 : ∀ k, k ∈ vb va → k ∉ S) (h3 : ∀ k, k ∈ vb vb' → k ∉ S) : RatB w' rb na nb va vb' A B :=
  ⟨hf.bk h.bk h1, h.av.fr hf h2, h.bv.fr hf h3, h.an, h.bn, h.apa, h.apb, h.dj, h.ca, h.cb⟩
theorem RatB.setN {w : World} {rb : Nat} {na nb : Bool} {va vb' : Value} {A B : List Int} (h : RatB w rb na nb va vb' A B) (n : Bool) : RatB (w.setCell ⟨rb, 0, none⟩ (.bool n)) rb n nb va vb' A B := by
  have f : Fr [rb] w (w.setCell ⟨rb, 0, none⟩ (.bool n)) := (Fr.refl [rb] w).set _ _ (by simp)
  exact ⟨h.bk.set 0 _, h.av.fr f (fun k hk hm => by have := h.apa; simp at hm; subst hm; exact this hk), h.bv.fr f (fun k hk hm => by have := h.apb; simp at hm; subst hm; exact this hk), h.an, h.bn, h.apa, h.apb, h.dj, h.ca, h.cb⟩
theorem RatB.setD {w : World} {rb : Nat} {na nb : Bool} {va vb' : Value} {A B : List Int} (h : RatB w rb na nb va vb' A B) (n : Bool) : RatB (w.setCell ⟨rb, 2, none⟩ (.bool n)) rb na n va vb' A B := by
  have f : Fr [rb] w (w.setCell ⟨rb, 2, none⟩ (.bool n)) := (Fr.refl [rb] w).set _ _ (by simp)
  exact ⟨h.bk.set 2 _, h.av.fr f (fun k hk hm => by have := h.apa; simp at hm; subst hm; exact this hk), h.bv.fr f (fun k hk hm => by have := h.apb; simp at hm; subst hm; exact this hk), h.an, h.bn, h.apa, h.apb, h.dj, h.ca, h.cb⟩
set_option maxRecDepth 100000 in
set_option maxHeartbeats 1000000 in
theorem norm_one {w : World} {rb : Nat} {va vb' : Value} {A B : List Int} (h : RatB w rb false false va vb' A B) (hA0 : 0 < A.length) (hB0 : 0 < B.length) (h1 : A.length = 1 ∨ B.length = 1) (lA : A.length ≤ 10000) (lB : B.length ≤ 10000) (hg : Int.gcd (val A) (val B) = 1) :
    Calls Tryz.prog 88 #[.pointer (some ⟨rb, 0, none⟩)] w fun e w' => e = .returned (.pointer (some ⟨rb, 0, none⟩)) ∧ RatB w' rb false false va vb' A B ∧ Fr [rb] w w' := by
  obtain ⟨aA, cA, rfl, hcA⟩ := h.av.form
  obtain ⟨aB, cB, rfl, hcB⟩ := h.bv.form
  have c0 : w.cell? ⟨rb, 0, none⟩ = some (.bool false) := by rw [h.bk.cell]; rfl
  have c1 : w.cell? ⟨rb, 1, none⟩ = some (.slice aA A.length cA) := by rw [h.bk.cell]; rfl
  have c2 : w.cell? ⟨rb, 2, none⟩ = some (.bool false) := by rw [h.bk.cell]; rfl
  have c3 : w.cell? ⟨rb, 3, none⟩ = some (.slice aB B.length cB) := by rw [h.bk.cell]; rfl
  have fz := h.bk.free
  have f0 := fz 0
  have f2 := fz 2
  have q1 : ((A.length : Int) == 0) = false := beq_eq_false_iff_ne.2 (by omega)
  have q2 : ((B.length : Int) == 0) = false := beq_eq_false_iff_ne.2 (by omega)
  have HS := Lib.hid (getStack_any (w := w))
  have HN : Hid (∀ u : World, Calls Tryz.prog 128 #[.int .i64 0] u fun e w' => e = .returned (.pointer (some ⟨u.heap.size, 0, none⟩)) ∧ w' = u.alloc z110) := fun u => newInt_zero
  have hR1 : RatB (w.alloc (.cells #[.pointer none] 240)) rb false false (.slice aA A.length cA) (.slice aB B.length cB) A B := h.fr ((Fr.refl [] w).alloc _) (by simp) (by simp) (by simp)
  have hR2 := (hR1.setN false).setD false
  have d0 : (w.alloc (.cells #[.pointer none] 240)).cell? ⟨rb, 0, none⟩ = some (.bool false) := by rw [hR1.bk.cell]; rfl
  have d2 : (w.alloc (.cells #[.pointer none] 240)).cell? ⟨rb, 2, none⟩ = some (.bool false) := by rw [hR1.bk.cell]; rfl
  have g0 := hR1.bk.free 0
  have g2 := hR1.bk.free 2
  have hlt := h.bk.lt
  have fW : Fr [rb] w (((w.alloc (.cells #[.pointer none] 240)).setCell ⟨rb, 0, none⟩ (.bool false)).setCell ⟨rb, 2, none⟩ (.bool false)) := (((Fr.refl [rb] w).alloc _).set _ _ (by simp)).set _ _ (by simp)
  have hst : Bk (((w.alloc (.cells #[.pointer none] 240)).setCell ⟨rb, 0, none⟩ (.bool false)).setCell ⟨rb, 2, none⟩ (.bool false)) w.heap.size 240 [.pointer none] := ((Bk.new w 240 _).set_ne _ _ (by simp; omega)).set_ne _ _ (by simp; omega)
  have H := Lib.hid (And.intro hR2 (And.intro fW hst))
  clear h fz hR1 hR2 fW hst hlt
  go_enter_defers Tryz.func88, Tryz.ntmps88
  go_upto_region 10 with (go_at_call 106; refine HS.out.mono ?_; rintro e w1 ⟨rfl, rfl⟩)
  generalize hW : ((w.alloc (.cells #[.pointer none] 240)).setCell ⟨rb, 0, none⟩ (.bool false)).setCell ⟨rb, 2, none⟩ (.bool false) = W2 at *
  clear hW
  have HL : Hid (∀ u, Fr [] W2 u → Hid (Calls Tryz.prog 129 #[.pointer (some ⟨u.heap.size, 0, none⟩), .pointer none, .pointer none, .pointer (some ⟨rb, 0, none⟩), .pointer (some ⟨rb, 2, none⟩)] (u.alloc z110) fun e w' => ∃ v G zb, e = .returned (.pointer (some ⟨zb, 0, none⟩)) ∧ Hid (IntB w' zb v G ∧ val G = Int.gcd (val A) (val B) ∧ Fr [] W2 w' ∧ W2.heap.size ≤ zb ∧ (∀ b, b ∈ vb v → W2.heap.size ≤ b)))) := fun u hu => by
    obtain ⟨r2, _, _⟩ := H.out
    have hR := r2.fr (hu.alloc z110) (by simp) (by simp) (by simp)
    have hb := hR.bk
    refine (lehmer_any (Bk.new u 110 _) hR.ca' hR.cb' hR.an hR.bn hA0 hB0 h1 lA lB hb hb).mono ?_
    rintro e w' ⟨v, G, rfl, q1, q2, q3, q4⟩
    have hs := hu.size
    exact ⟨v, G, _, rfl, q1, q2, (hu.alloc z110).trans q3 (fun x hx => by simp at hx; subst hx; exact .inr hs), hs, fun b hb => by have := q4 b hb; simp at this; omega⟩
  have HKS : Hid (∀ u, Fr [] W2 u → u.cell? ⟨rb, 0, none⟩ = some (.bool false)) := fun u hu => by
    have hR := H.out.1.fr hu (by simp) (by simp) (by simp)
    rw [hR.bk.cell]; rfl
  go_region_held3 (fun u => u.cell? ⟨rb, 0, none⟩ = some (.bool false)) (first | exact HKS.out _ h3.out.2.2.1 | with_reducible exact HKS.out _ (Fr.refl _ _) | with_reducible exact HKS.out _ (Fr.refl _ _).drew | with_reducible exact HKS.out _ ((Fr.refl _ _).drew.alloc _) | with_reducible exact HKS.out _ ((Fr.refl _ _).alloc _) | with_reducible exact HKS.out _ ((Fr.refl _ _).alloc _).drew) (first | (have hh := hz; go_at_call 129; refine (HL.out _ (by first | exact (Fr.refl _ _).drew | exact Fr.refl _ _)).out.mono ?_; rintro e w3 ⟨v3, G, zb, rfl, h3⟩) | (go_at_call 128; refine (HN.out _).mono ?_; rintro e w2 ⟨rfl, rfl⟩; have hz := trivial))
  all_goals
    have hG1 : G = [1] := by
      obtain ⟨q1, q2, _⟩ := h3.out
      exact nrm_inj q1.nm (Nrm.single (by omega)) q1.nv.ws (Ws.single (by omega) (by omega)) (by rw [q2, hg, val_single]; rfl)
    subst hG1
    have HO := Lib.hid (intOne_any (w := w3))
    have HCM : Hid (∀ (w4 : World) ob vo, Hid (IntB w4 ob vo [1] ∧ w3.heap.size ≤ ob ∧ Fr [] w3 w4) → Hid (Calls Tryz.prog 130 #[.pointer (some ⟨zb, 0, none⟩), .pointer (some ⟨ob, 0, none⟩)] w4 fun e w' => e = .returned (.int .i64 0) ∧ ∃ m, w' = w4.drewN m)) := fun w4 ob vo hh => by
      obtain ⟨k1, k2, k3⟩ := hh.out
      have hl := h3.out.1.bk.lt
      refine (intCmp_any (h3.out.1.fr k3 (by simp) (by simp)) k1 (by omega) (by simp) (by simp) (by simp)).mono ?_
      rintro e w' ⟨t, rfl, ht, hm⟩
      have : t = 0 := by rcases ht with ⟨rfl, h⟩ | ⟨rfl, h⟩ | ⟨rfl, h⟩ <;> omega
      subst this
      exact ⟨rfl, hm⟩
    have HKX : Hid (∀ (w4 : World) m, Fr [] w3 w4 → (w4.drewN m).cell? ⟨rb, 0, none⟩ = some (.bool false) ∧ (w4.drewN m).frozen? ⟨rb, 0, none⟩ = false ∧ Hid (RatB (w4.drewN m) rb false false (.slice aA A.length cA) (.slice aB B.length cB) A B ∧ Bk (w4.drewN m) w.heap.size 240 [.pointer none])) := fun w4 m hf => by
      have f : Fr [] W2 (w4.drewN m) := (h3.out.2.2.1.trans hf (by simp)).drewN m
      have hR := H.out.1.fr f (by simp) (by simp) (by simp)
      exact ⟨by rw [hR.bk.cell]; rfl, hR.bk.free 0, hR, f.bk H.out.2.2 (by simp)⟩
    go_wp2_with (first | (have hh := h4; go_at_call 130; refine HC4.out.mono ?_; rintro e w5 ⟨rfl, m, rfl⟩; have hkx := HKX.out w4 m h4.out.2.2; obtain ⟨x0, x1, x2⟩ := hkx) | (go_at_call 131; refine HO.out.mono ?_; rintro e w4 ⟨ob, vo, rfl, h4⟩; have HC4 := HCM.out w4 ob vo h4))
    obtain ⟨r1, r2⟩ := x2.out
    have hlt := H.out.2.2.lt
    have hrl := r1.bk.lt
    have hne : w.heap.size ≠ rb := fun e => by
      have h1 := r1.bk
      have h2 := r2
      rw [← e] at h1
      unfold Bk at h1 h2
      rw [h1] at h2
      injection h2 with h2
      injection h2 with _ h2
      exact absurd h2 (by decide)
    have r3 := r2.set_ne ⟨rb, 0, none⟩ (.bool false) hne
    have r4 := r1.setN false
    refine leaves_cons (f := 107) (args := #[.pointer (some ⟨w.heap.size, 0, none⟩)]) (by simp) (by simp [go_sem]) ?_
    refine (free_d .returning r3).mono ?_
    rintro e u' w'' ⟨rfl, rfl, rfl⟩
    have hF : Fr [rb] w ((w4.drewN m).setCell ⟨rb, 0, none⟩ (.bool false)) := (((H.out.2.1.trans (h3.out.2.2.1) (by simp)).trans h4.out.2.2 (by simp)).drewN m).set _ _ (by simp)
    exact ⟨_, results_tmp rfl _ _ _, rfl, r4, hF⟩
end Go.Proofs.YtfbbkngonohlkaaGreatDoor
