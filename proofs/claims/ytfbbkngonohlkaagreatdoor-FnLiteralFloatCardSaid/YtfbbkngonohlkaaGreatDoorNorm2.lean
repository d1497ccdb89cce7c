/- Rat.norm of a fraction that is not in lowest terms. -/
import Derived.Test.YtfbbkngonohlkaaGreatDoorFLeh
namespace Go.Proofs.YtfbbkngonohlkaaGreatDoor
open Go Go.RowKit
set_option linter.unusedVariables false
set_option linter.unusedSimpArgs false
theorem RatB.putA {w w6 : World} {rb : Nat} {na nb : Bool} {va vb' q : Value} {A B Q : List Int} (h : RatB w rb na nb va vb' A B) (hq : NatV w6 q Q) (nQ : Nrm Q) (hf : Fr (vb va) w w6) (hn : ∀ b, b ∈ vb q → b ∈ vb va ∨ w.heap.size ≤ b) (hc : capOf q ≤ 9223372036854775807) :
    RatB (w6.setCell ⟨rb, 1, none⟩ q) rb na nb q vb' Q B ∧ Fr (rb :: vb va) w (w6.setCell ⟨rb, 1, none⟩ q) := by
  have hlt := h.bk.lt
  have h6 := hf.bk h.bk h.apa
  have nq : rb ∉ vb q := fun hh => by
    rcases hn _ hh with h1 | h1
    · exact h.apa h1
    · omega
  have f : Fr [rb] w6 (w6.setCell ⟨rb, 1, none⟩ q) := (Fr.refl [rb] w6).set _ _ (by simp)
  refine ⟨⟨h6.set 1 q, hq.fr f (fun k hk hm => by simp at hm; subst hm; exact nq hk), (h.bv.fr hf (fun k hk hk2 => h.dj k hk2 hk)).fr f (fun k hk hm => by have := h.apb; simp at hm; subst hm; exact this hk), nQ, h.bn, nq, h.apb, fun k hk hk2 => ?_, hc, h.cb⟩, (hf.mono (fun x hx => .inl (List.mem_cons_of_mem _ hx))).set _ _ (by simp)⟩
  rcases hn k hk with h1 | h1
  · exact h.dj k h1 hk2
  · have := h.bv.lt k hk2; omega
theorem RatB.putB {w w6 : World} {rb : Nat} {na nb : Bool} {va vb' q : Value} {A B Q : List Int} (h : RatB w rb na nb va vb' A B) (hq : NatV w6 q Q) (nQ : Nrm Q) (hf : Fr (vb vb') w w6) (hn : ∀ b, b ∈ vb q → b ∈ vb vb' ∨ w.heap.size ≤ b) (hc : capOf q ≤ 9223372036854775807) :
    RatB (w6.setCell ⟨rb, 3, none⟩ q) rb na nb va q A Q ∧ Fr (rb :: vb vb') w (w6.setCell ⟨rb, 3, none⟩ q) := by
  have hlt := h.bk.lt
  have h6 := hf.bk h.bk h.apb
  have nq : rb ∉ vb q := fun hh => by
    rcases hn _ hh with h1 | h1
    · exact h.apb h1
    · omega
  have f : Fr [rb] w6 (w6.setCell ⟨rb, 3, none⟩ q) := (Fr.refl [rb] w6).set _ _ (by simp)
  refine ⟨⟨h6.set 3 q, (h.av.fr hf (fun k hk hk2 => h.dj k hk hk2)).fr f (fun k hk hm => by have := h.apa; simp at hm; subst hm; exact this hk), hq.fr f (fun k hk hm => by simp at hm; subst hm; exact nq hk), h.an, nQ, h.apa, nq, fun k hk hk2 => ?_, h.ca, hc⟩, (hf.mono (fun x hx => .inl (List.mem_cons_of_mem _ hx))).set _ _ (by simp)⟩
  rcases hn k hk2 with h1 | h1
  · exact h.dj k hk h1
  · have := h.av.lt k hk; omega
/-- Behind the denominator's division. -/
structure Nd (wc wx : World) (rb sb : Nat) (vQ vB q : Value) (Q B D : List Int) (g : Int) : Prop where
  r : RatB wx rb false false vQ q Q D
  v : val D = val B / g
  f : Fr (rb :: vb vB) wc wx
  s : Bk wx sb 240 [.pointer none]
/-- Behind the numerator's division. -/
structure Nq (w5 wx : World) (rb zb sb : Nat) (vA vB vG q : Value) (A B Q : List Int) (g : Int) : Prop where
  r : RatB wx rb false false q vB Q B
  v : val Q = val A / g
  f : Fr (rb :: vb vA) w5 wx
  z : IntB wx zb vG [g]
  s : Bk wx sb 240 [.pointer none]
  n : ∀ k, k ∈ vb q → k ∈ vb vA ∨ w5.heap.size ≤ k
theorem div_val {l m g a : Int} (h : l * g + m = a) (h0 : 0 ≤ m) (h1 : m < g) : l = a / g := by
  rw [← h, Int.add_comm, Int.add_mul_ediv_right _ _ (by omega), Int.ediv_eq_zero_of_lt h0 h1]; omega
theorem NatV.drew' {w : World} {v : Value} {l : List Int} (h : NatV w v l) : NatV w.drew v l := h.fr ((Fr.refl [] w).drew) (by simp)
set_option maxRecDepth 100000 in
set_option maxHeartbeats 4000000 in
theorem norm_more {w : World} {rb : Nat} {va vb' : Value} {A B : List Int} (h : RatB w rb false false va vb' A B) (hA0 : 0 < A.length) (hB0 : 0 < B.length) (h1 : A.length = 1 ∨ B.length = 1) (lA : A.length ≤ 10000) (lB : B.length ≤ 10000) (hg : Int.gcd (val A) (val B) ≠ 1) :
    Calls Tryz.prog 88 #[.pointer (some ⟨rb, 0, none⟩)] w fun e w' => ∃ va2 vb2 A2 B2, e = .returned (.pointer (some ⟨rb, 0, none⟩)) ∧ RatB w' rb false false va2 vb2 A2 B2 ∧ val A2 = val A / Int.gcd (val A) (val B) ∧ val B2 = val B / Int.gcd (val A) (val B) ∧ Fr (rb :: (vb va ++ vb vb')) w w' := by
  obtain ⟨aA, cA, rfl, hcA⟩ := h.av.form
  obtain ⟨aB, cB, rfl, hcB⟩ := h.bv.form
  have c0 : w.cell? ⟨rb, 0, none⟩ = some (.bool false) := by rw [h.bk.cell]; rfl
  have c1 : w.cell? ⟨rb, 1, none⟩ = some (.slice aA A.length cA) := by rw [h.bk.cell]; rfl
  have c2 : w.cell? ⟨rb, 2, none⟩ = some (.bool false) := by rw [h.bk.cell]; rfl
  have c3 : w.cell? ⟨rb, 3, none⟩ = some (.slice aB B.length cB) := by rw [h.bk.cell]; rfl
  have fz := h.bk.free
  have f0 := fz 0
  have f2 := fz 2
  have q1 : ((A.length : Int) == 0) = false := beq_eq_false_iff_ne.2 (by omega)
  have q2 : ((B.length : Int) == 0) = false := beq_eq_false_iff_ne.2 (by omega)
  have HS := Lib.hid (getStack_any (w := w))
  have HN : Hid (∀ u : World, Calls Tryz.prog 128 #[.int .i64 0] u fun e w' => e = .returned (.pointer (some ⟨u.heap.size, 0, none⟩)) ∧ w' = u.alloc z110) := fun u => newInt_zero
  have hR1 : RatB (w.alloc (.cells #[.pointer none] 240)) rb false false (.slice aA A.length cA) (.slice aB B.length cB) A B := h.fr ((Fr.refl [] w).alloc _) (by simp) (by simp) (by simp)
  have hR2 := (hR1.setN false).setD false
  have d0 : (w.alloc (.cells #[.pointer none] 240)).cell? ⟨rb, 0, none⟩ = some (.bool false) := by rw [hR1.bk.cell]; rfl
  have d2 : (w.alloc (.cells #[.pointer none] 240)).cell? ⟨rb, 2, none⟩ = some (.bool false) := by rw [hR1.bk.cell]; rfl
  have g0 := hR1.bk.free 0
  have g2 := hR1.bk.free 2
  have hlt := h.bk.lt
  have fW : Fr [rb] w (((w.alloc (.cells #[.pointer none] 240)).setCell ⟨rb, 0, none⟩ (.bool false)).setCell ⟨rb, 2, none⟩ (.bool false)) := (((Fr.refl [rb] w).alloc _).set _ _ (by simp)).set _ _ (by simp)
  have hst : Bk (((w.alloc (.cells #[.pointer none] 240)).setCell ⟨rb, 0, none⟩ (.bool false)).setCell ⟨rb, 2, none⟩ (.bool false)) w.heap.size 240 [.pointer none] := ((Bk.new w 240 _).set_ne _ _ (by simp; omega)).set_ne _ _ (by simp; omega)
  have H0 := Lib.hid (And.intro (Nat.le_refl 0) (fun k hk => h.av.lt k hk))
  have H1 := Lib.hid (fun k hk => h.bv.lt k hk)
  have H := Lib.hid (And.intro hR2 (And.intro fW hst))
  clear h fz hR1 hR2 fW hst hlt
  go_enter_defers Tryz.func88, Tryz.ntmps88
  go_upto_region 10 with (go_at_call 106; refine HS.out.mono ?_; rintro e w1 ⟨rfl, rfl⟩)
  generalize hW : ((w.alloc (.cells #[.pointer none] 240)).setCell ⟨rb, 0, none⟩ (.bool false)).setCell ⟨rb, 2, none⟩ (.bool false) = W2 at *
  clear hW
  have HL : Hid (∀ u, Fr [] W2 u → Hid (Calls Tryz.prog 129 #[.pointer (some ⟨u.heap.size, 0, none⟩), .pointer none, .pointer none, .pointer (some ⟨rb, 0, none⟩), .pointer (some ⟨rb, 2, none⟩)] (u.alloc z110) fun e w' => ∃ v G zb, e = .returned (.pointer (some ⟨zb, 0, none⟩)) ∧ Hid (IntB w' zb v G ∧ val G = Int.gcd (val A) (val B) ∧ Fr [] W2 w' ∧ W2.heap.size ≤ zb ∧ (∀ b, b ∈ vb v → W2.heap.size ≤ b)))) := fun u hu => by
    obtain ⟨r2, _, _⟩ := H.out
    have hR := r2.fr (hu.alloc z110) (by simp) (by simp) (by simp)
    have hb := hR.bk
    refine (lehmer_any (Bk.new u 110 _) hR.ca' hR.cb' hR.an hR.bn hA0 hB0 h1 lA lB hb hb).mono ?_
    rintro e w' ⟨v, G, rfl, q1, q2, q3, q4⟩
    have hs := hu.size
    exact ⟨v, G, _, rfl, q1, q2, (hu.alloc z110).trans q3 (fun x hx => by simp at hx; subst hx; exact .inr hs), hs, fun b hb => by have := q4 b hb; simp at this; omega⟩
  have HKS : Hid (∀ u, Fr [] W2 u → u.cell? ⟨rb, 0, none⟩ = some (.bool false)) := fun u hu => by
    have hR := H.out.1.fr hu (by simp) (by simp) (by simp)
    rw [hR.bk.cell]; rfl
  go_region_held3 (fun u => u.cell? ⟨rb, 0, none⟩ = some (.bool false)) (first | exact HKS.out _ h3.out.2.2.1 | with_reducible exact HKS.out _ (Fr.refl _ _) | with_reducible exact HKS.out _ (Fr.refl _ _).drew | with_reducible exact HKS.out _ ((Fr.refl _ _).drew.alloc _) | with_reducible exact HKS.out _ ((Fr.refl _ _).alloc _) | with_reducible exact HKS.out _ ((Fr.refl _ _).alloc _).drew) (first | (have hh := hz; go_at_call 129; refine (HL.out _ (by first | exact (Fr.refl _ _).drew | exact Fr.refl _ _)).out.mono ?_; rintro e w3 ⟨v3, G, zb, rfl, h3⟩) | (go_at_call 128; refine (HN.out _).mono ?_; rintro e w2 ⟨rfl, rfl⟩; have hz := trivial))
  all_goals
    have hGl : ∃ g, G = [g] := by
      obtain ⟨q1, q2, _⟩ := h3.out
      have h5 := val_nonneg q1.nv.ws
      have hA := H.out.1.av.ws
      have hB := H.out.1.bv.ws
      have hgl : val G < BB 1 := by
        rcases h1 with h | h
        · have h6 := val_lt hA
          rw [h] at h6
          have h7 : 0 < val A := by
            have := H.out.1.an.ge hA hA0
            have := BB_pos (A.length - 1)
            omega
          have h8 := Int.le_of_dvd h7 (Int.gcd_dvd_left (val A) (val B))
          rw [← q2] at h8
          omega
        · have h6 := val_lt hB
          rw [h] at h6
          have h7 : 0 < val B := by
            have := H.out.1.bn.ge hB hB0
            have := BB_pos (B.length - 1)
            omega
          have h8 := Int.le_of_dvd h7 (Int.gcd_dvd_right (val A) (val B))
          rw [← q2] at h8
          omega
      have hl := len_le_of_val q1.nm q1.nv.ws hgl
      have h7 : 0 < val A := by
        have := H.out.1.an.ge hA hA0
        have := BB_pos (A.length - 1)
        omega
      have hgp : 0 < Int.gcd (val A) (val B) := Int.gcd_pos_of_ne_zero_left _ (by omega)
      have hl0 : G.length ≠ 0 := fun e => by
        rw [List.length_eq_zero_iff.1 e] at q2
        simp only [val] at q2
        omega
      exact List.length_eq_one_iff.1 (by omega)
    obtain ⟨g, rfl⟩ := hGl
    obtain ⟨aG, cG, rfl, hcG⟩ := h3.out.1.nv.form
    have HO := Lib.hid (intOne_any (w := w3))
    have HCM : Hid (∀ (w4 : World) ob vo, Hid (IntB w4 ob vo [1] ∧ w3.heap.size ≤ ob ∧ Fr [] w3 w4) → Hid (Calls Tryz.prog 130 #[.pointer (some ⟨zb, 0, none⟩), .pointer (some ⟨ob, 0, none⟩)] w4 fun e w' => ∃ t, e = .returned (.int .i64 t) ∧ (t != 0) = true ∧ ∃ m, w' = w4.drewN m)) := fun w4 ob vo hh => by
      obtain ⟨k1, k2, k3⟩ := hh.out
      have hl := h3.out.1.bk.lt
      refine (intCmp_any (h3.out.1.fr k3 (by simp) (by simp)) k1 (by omega) (by simp) (by simp) (by simp)).mono ?_
      rintro e w' ⟨t, rfl, ht, hm⟩
      have hv := h3.out.2.1
      rw [val_single] at hv
      have h9 : g ≠ 1 := by omega
      refine ⟨t, rfl, ?_, hm⟩
      simp only [CmpIs, val_single] at ht
      have : t ≠ 0 := by omega
      simp [this]
    simp only [List.length_singleton] at *
    have HKX : Hid (∀ (w4 : World) m, Fr [] w3 w4 → (w4.drewN m).cell? ⟨rb, 1, none⟩ = some (.slice aA A.length cA) ∧ (w4.drewN m).cell? ⟨zb, 1, none⟩ = some (.slice aG 1 cG) ∧ (w4.drewN m).frozen? ⟨rb, 1, none⟩ = false ∧ Hid (RatB (w4.drewN m) rb false false (.slice aA A.length cA) (.slice aB B.length cB) A B ∧ Bk (w4.drewN m) w.heap.size 240 [.pointer none] ∧ IntB (w4.drewN m) zb (.slice aG 1 cG) [g])) := fun w4 m hf => by
      have f : Fr [] W2 (w4.drewN m) := (h3.out.2.2.1.trans hf (by simp)).drewN m
      have hR := H.out.1.fr f (by simp) (by simp) (by simp)
      have hI := h3.out.1.fr (hf.drewN m) (by simp) (by simp)
      exact ⟨by rw [hR.bk.cell]; rfl, hI.c.c1, hR.bk.free 1, hR, f.bk H.out.2.2 (by simp), hI⟩
    go_upto_region 12 with (first | (have hh := h4; go_at_call 130; refine HC4.out.mono ?_; rintro e w5 ⟨t, rfl, ht, m, rfl⟩; have hkx := HKX.out w4 m h4.out.2.2; obtain ⟨x0, x1, x2, x3⟩ := hkx) | (go_at_call 131; refine HO.out.mono ?_; rintro e w4 ⟨ob, vo, rfl, h4⟩; have HC4 := HCM.out w4 ob vo h4))
    have hfW : Fr [] W2 (w4.drewN m) := (h3.out.2.2.1.trans h4.out.2.2 (by simp)).drewN m
    have HV := Lib.hid (And.intro (show val [g] = (Int.gcd (val A) (val B) : Int) from h3.out.2.1) (And.intro hfW (And.intro h3.out.2.2.2.1 h3.out.2.2.2.2)))
    clear hfW HC4 HCM HKX HO h4 h3 HL HKS
    generalize w4.drewN m = w5 at *
    have g0 : g ≠ 0 := by have := x3.out.2.2.one; omega
    have HD := Lib.hid (div_one (s := .pointer (some ⟨w.heap.size, 0, none⟩)) (z2 := .slice none 0 0) (Z2 := []) x3.out.1.av.drew' (NatV.nil w5.drew) x3.out.1.av.drew' x3.out.2.2.nv.drew' x3.out.1.an lA g0 (fun b hb => by simp [vb]))
    have HF : Hid (∀ w6, Fr (vb (.slice aA A.length cA) ++ vb (.slice none 0 0)) w5.drew w6 → w6.cell? ⟨rb, 1, none⟩ = some (.slice aA A.length cA) ∧ w6.frozen? ⟨rb, 1, none⟩ = false) := fun w6 hf => by
      have hb := hf.bk (x3.out.1.bk.drew) (by have := x3.out.1.apa; simp [vb] at this ⊢; exact this)
      exact ⟨by rw [hb.cell]; rfl, hb.free 1⟩
    have HMK : Hid (∀ w6 lq r aQ cQ, (NatV w6 (.slice aQ lq.length cQ) lq ∧ Nrm lq ∧ (∃ m, NatV w6 r m ∧ Nrm m ∧ val lq * g + val m = val A ∧ 0 ≤ val m ∧ val m < g) ∧ Fr (vb (.slice aA A.length cA) ++ vb (.slice none 0 0)) w5.drew w6 ∧ (∀ b, b ∈ vb (.slice aQ lq.length cQ) → b ∈ vb (.slice aA A.length cA) ∨ w5.drew.heap.size ≤ b) ∧ (∀ b, b ∈ vb r → b ∈ vb (.slice none 0 0) ∨ w5.drew.heap.size ≤ b) ∧ (capOf (.slice aA A.length cA) ≤ 9223372036854775807 → capOf (.slice aQ lq.length cQ) ≤ 9223372036854775807) ∧ (capOf (.slice none 0 0) ≤ 9223372036854775807 → capOf r ≤ 9223372036854775807)) →
        Nq w5 (w6.setCell ⟨rb, 1, none⟩ (.slice aQ lq.length cQ)) rb zb w.heap.size (.slice aA A.length cA) (.slice aB B.length cB) (.slice aG 1 cG) (.slice aQ lq.length cQ) A B lq g) := fun w6 lq r aQ cQ hq => by
      obtain ⟨q1, q2, ⟨m, _, _, q3, q4, q5⟩, q6, q7, _, q8, _⟩ := hq
      have f6 : Fr (vb (.slice aA A.length cA)) w5 w6 := ((Fr.refl (vb (.slice aA A.length cA)) w5).drew).trans q6 (fun x hx => by simp [vb] at hx ⊢; exact .inl hx)
      obtain ⟨p1, p2⟩ := x3.out.1.putA q1 q2 f6 q7 (q8 x3.out.1.ca)
      obtain ⟨v1, v2, v3, v4⟩ := HV.out
      have a1 := H.out.1.av.lt
      have a2 := H.out.1.bk.lt
      have a3 := H.out.2.2.lt
      have hne : ∀ k, W2.heap.size ≤ k → k ∉ rb :: vb (.slice aA A.length cA) := fun k hk hm => by
        rcases List.mem_cons.1 hm with h | h
        · omega
        · have := a1 k h; omega
      refine ⟨p1, div_val q3 q4 q5, p2, x3.out.2.2.fr p2 (hne _ v3) (fun k hk => hne _ (v4 k hk)), p2.bk x3.out.2.1 ?_, q7⟩
      have h2 := x3.out.2.1
      intro hm
      rcases List.mem_cons.1 hm with h | h
      · have h1 := x3.out.1.bk
        rw [← h] at h1
        unfold Bk at h1 h2
        rw [h1] at h2
        injection h2 with h2
        injection h2 with _ h2
        exact absurd h2 (by decide)
      · have := H0.out.2 _ h
        omega
    go_cut [] from 63 to 85 (fun wx => ∃ aQ cQ Q, Nq w5 wx rb zb w.heap.size (.slice aA A.length cA) (.slice aB B.length cB) (.slice aG 1 cG) (.slice aQ Q.length cQ) A B Q g)
    case first =>
      refine wp_region_noPanic ?_
      go_region_with (go_at_call 132; refine HD.out.mono ?_; rintro e w6 ⟨q, lq, r, rfl, hq⟩; have hform := hq.1.form; obtain ⟨aQ, cQ, rfl, hcQ⟩ := hform; have hfm2 := HF.out w6 hq.2.2.2.1; obtain ⟨k1, k2⟩ := hfm2; have hq := Lib.hid hq)
      all_goals (refine NoPanic.normal ?_)
      all_goals
        go_wp2_with fail
        go_meet
        case rel => exact ⟨aQ, cQ, lq, HMK.out _ _ _ _ _ hq.out⟩
    case rest =>
      obtain ⟨aQ, cQ, Q, hN⟩ := hcut
      have HN2 := Lib.hid hN
      have y1 : wc.cell? ⟨rb, 3, none⟩ = some (.slice aB B.length cB) := by rw [hN.r.bk.cell]; rfl
      have y2 : wc.cell? ⟨zb, 1, none⟩ = some (.slice aG 1 cG) := hN.z.c.c1
      have y3 := hN.r.bk.free 3
      have HD2 := Lib.hid (div_one (s := .pointer (some ⟨w.heap.size, 0, none⟩)) (z2 := .slice none 0 0) (Z2 := []) hN.r.bv.drew' (NatV.nil wc.drew) hN.r.bv.drew' hN.z.nv.drew' hN.r.bn lB g0 (fun b hb => by simp [vb]))
      have HF2 : Hid (∀ w6, Fr (vb (.slice aB B.length cB) ++ vb (.slice none 0 0)) wc.drew w6 → w6.cell? ⟨rb, 3, none⟩ = some (.slice aB B.length cB) ∧ w6.frozen? ⟨rb, 3, none⟩ = false) := fun w6 hf => by
        have hb := hf.bk (HN2.out.r.bk.drew) (by have := HN2.out.r.apb; simp [vb] at this ⊢; exact this)
        exact ⟨by rw [hb.cell]; rfl, hb.free 3⟩
      have HMK2 : Hid (∀ w6 lq r aD cD, (NatV w6 (.slice aD lq.length cD) lq ∧ Nrm lq ∧ (∃ m, NatV w6 r m ∧ Nrm m ∧ val lq * g + val m = val B ∧ 0 ≤ val m ∧ val m < g) ∧ Fr (vb (.slice aB B.length cB) ++ vb (.slice none 0 0)) wc.drew w6 ∧ (∀ b, b ∈ vb (.slice aD lq.length cD) → b ∈ vb (.slice aB B.length cB) ∨ wc.drew.heap.size ≤ b) ∧ (∀ b, b ∈ vb r → b ∈ vb (.slice none 0 0) ∨ wc.drew.heap.size ≤ b) ∧ (capOf (.slice aB B.length cB) ≤ 9223372036854775807 → capOf (.slice aD lq.length cD) ≤ 9223372036854775807) ∧ (capOf (.slice none 0 0) ≤ 9223372036854775807 → capOf r ≤ 9223372036854775807)) →
          Nd wc (w6.setCell ⟨rb, 3, none⟩ (.slice aD lq.length cD)) rb w.heap.size (.slice aQ Q.length cQ) (.slice aB B.length cB) (.slice aD lq.length cD) Q B lq g) := fun w6 lq r aD cD hq => by
        obtain ⟨q1, q2, ⟨m, _, _, q3, q4, q5⟩, q6, q7, _, q8, _⟩ := hq
        have f6 : Fr (vb (.slice aB B.length cB)) wc w6 := ((Fr.refl (vb (.slice aB B.length cB)) wc).drew).trans q6 (fun x hx => by simp [vb] at hx ⊢; exact .inl hx)
        obtain ⟨p1, p2⟩ := HN2.out.r.putB q1 q2 f6 q7 (q8 HN2.out.r.cb)
        refine ⟨p1, div_val q3 q4 q5, p2, p2.bk HN2.out.s ?_⟩
        have h2 := HN2.out.s
        intro hm
        rcases List.mem_cons.1 hm with h | h
        · have h1 := HN2.out.r.bk
          rw [← h] at h1
          unfold Bk at h1 h2
          rw [h1] at h2
          injection h2 with h2
          injection h2 with _ h2
          exact absurd h2 (by decide)
        · have := H1.out _ h
          omega
      clear hN HD HF HMK HS HN x0 x1 x2
      go_upto_region 13 with fail
      go_cut [] from 86 to 108 (fun wx => ∃ aD cD D, Nd wc wx rb w.heap.size (.slice aQ Q.length cQ) (.slice aB B.length cB) (.slice aD D.length cD) Q B D g)
      case first =>
        refine wp_region_noPanic ?_
        go_region_with (go_at_call 132; refine HD2.out.mono ?_; rintro e w6 ⟨q, lq, r, rfl, hq⟩; have hform := hq.1.form; obtain ⟨aD, cD, rfl, hcD⟩ := hform; have hfm2 := HF2.out w6 hq.2.2.2.1; obtain ⟨k1, k2⟩ := hfm2; have hq := Lib.hid hq)
        all_goals (refine NoPanic.normal ?_)
        all_goals
          go_wp2_with fail
          go_meet
          case rel => exact ⟨aD, cD, lq, HMK2.out _ _ _ _ _ hq.out⟩
      case rest =>
        rename_i wd
        obtain ⟨aD, cD, D, hE⟩ := hcut
        have z1 : wc.cell? ⟨rb, 0, none⟩ = some (.bool false) := by rw [hE.r.bk.cell]; rfl
        have z2 := hE.r.bk.free 0
        have HE := Lib.hid hE
        clear hE HD2 HF2 HMK2 y1 y2 y3
        go_wp2_with fail
        have hlt := HE.out.s.lt
        have hne : w.heap.size ≠ rb := fun e => by
          have h1 := HE.out.r.bk
          have h2 := HE.out.s
          rw [← e] at h1
          unfold Bk at h1 h2
          rw [h1] at h2
          injection h2 with h2
          injection h2 with _ h2
          exact absurd h2 (by decide)
        have r3 := HE.out.s.set_ne ⟨rb, 0, none⟩ (.bool false) hne
        have r4 := HE.out.r.setN false
        refine leaves_cons (f := 107) (args := #[.pointer (some ⟨w.heap.size, 0, none⟩)]) (by simp) (by simp [go_sem]) ?_
        refine (free_d .returning r3).mono ?_
        rintro e u' w'' ⟨rfl, rfl, rfl⟩
        obtain ⟨v1, v2, _, _⟩ := HV.out
        rw [val_single] at v1
        have F1 : Fr (rb :: (vb (.slice aA A.length cA) ++ vb (.slice aB B.length cB))) w w5 := (H.out.2.1.mono (fun x hx => .inl (by simp at hx; subst hx; exact List.mem_cons_self ..)) : Fr (rb :: (vb (.slice aA A.length cA) ++ vb (.slice aB B.length cB))) w W2).trans v2 (by simp)
        have F2 := F1.trans HN2.out.f (fun x hx => .inl (by
          rcases List.mem_cons.1 hx with h | h
          · rw [h]; exact List.mem_cons_self ..
          · exact List.mem_cons_of_mem _ (List.mem_append_left _ h)))
        have F3 := F2.trans HE.out.f (fun x hx => .inl (by
          rcases List.mem_cons.1 hx with h | h
          · rw [h]; exact List.mem_cons_self ..
          · exact List.mem_cons_of_mem _ (List.mem_append_right _ h)))
        exact ⟨_, results_tmp rfl _ _ _, _, _, Q, D, rfl, r4, by rw [← v1]; exact HN2.out.v, by rw [← v1]; exact HE.out.v, F3.set _ _ (by simp)⟩
end Go.Proofs.YtfbbkngonohlkaaGreatDoor
