/- Int.QuoRem of natural numbers by one word. -/
import Derived.Test.YtfbbkngonohlkaaGreatDoorIntAbs
import Derived.Deep.RegionWith
import Derived.Deep.RegionHeld3
import Derived.BigRegion
import Derived.Deep.DeepCutAuto
import Derived.Deep.CutRange
import Derived.Deep.CutBlock
namespace Go.Proofs.YtfbbkngonohlkaaGreatDoor
open Go Go.RowKit
set_option linter.unusedVariables false
set_option linter.unusedSimpArgs false
/-- Behind QuoRem's division: q and r hold the quotient and the rest. -/
structure QR (w wx : World) (qb rb : Nat) (vq vr : Value) (Q R A : List Int) (y : Int) : Prop where
  q : Bk wx qb 110 [.bool false, vq]
  r : Bk wx rb 110 [.bool false, vr]
  fq : ∃ a c, vq = .slice a Q.length c
  fr' : ∃ a c, vr = .slice a R.length c
  nv : NatV wx vr R
  nm : Nrm R
  cap : capOf vr ≤ 9223372036854775807
  vl : val R = val A % y
  qp : 0 < Q.length
  fr : Fr [qb, rb] w wx
  new : ∀ b, b ∈ vb vr → w.heap.size ≤ b
set_option maxHeartbeats 16000000 in
set_option maxRecDepth 100000 in
theorem quoRem_any {w : World} {qb rb ab bb : Nat} {va vy : Value} {A : List Int} {y : Int} (hq : Bk w qb 110 [.bool false, .slice none 0 0]) (hr : Bk w rb 110 [.bool false, .slice none 0 0])
    (ha : IntB w ab va A) (hb : IntB w bb vy [y]) (hy0 : y ≠ 0) (hl : A.length ≤ 10000) (hyA : y ≤ val A) (haw : ∀ k, k ∈ vb va → k ≠ qb ∧ k ≠ rb) (hbw : ∀ k, k ∈ vb vy → k ≠ qb ∧ k ≠ rb) (n1 : qb ≠ rb) (n2 : qb ≠ ab) (n3 : qb ≠ bb) (n4 : rb ≠ ab) (n5 : rb ≠ bb) :
    Calls Tryz.prog 228 #[.pointer (some ⟨qb, 0, none⟩), .pointer (some ⟨ab, 0, none⟩), .pointer (some ⟨bb, 0, none⟩), .pointer (some ⟨rb, 0, none⟩)] w fun e w' => ∃ vr R, e = .returned (.tuple #[.pointer (some ⟨qb, 0, none⟩), .pointer (some ⟨rb, 0, none⟩)]) ∧ IntB w' rb vr R ∧ val R = val A % y ∧ Fr [qb, rb] w w' := by
  have hq1 : w.cell? ⟨qb, 1, none⟩ = some (.slice none 0 0) := by rw [hq.cell]; rfl
  have hr1 : w.cell? ⟨rb, 1, none⟩ = some (.slice none 0 0) := by rw [hr.cell]; rfl
  have ha1 := ha.c.c1
  have hb1 := hb.c.c1
  have HS := Lib.hid (div_one (w := w.drew) (z := .slice none 0 0) (s := .pointer none) (z2 := .slice none 0 0) (Z := []) (Z2 := []) (x := va) (v := vy) (NatV.nil _) (NatV.nil _) ha.nv hb.nv ha.nm hl hy0 (fun b hb => by cases hb))
  have hfin : ∀ w2, Fr [] w.drew w2 → w2.cell? ⟨qb, 1, none⟩ = some (.slice none 0 0) ∧ w2.cell? ⟨rb, 1, none⟩ = some (.slice none 0 0) ∧ w2.frozen? ⟨qb, 1, none⟩ = false ∧ w2.frozen? ⟨rb, 1, none⟩ = false ∧ w2.cell? ⟨ab, 1, none⟩ = some va ∧ w2.cell? ⟨bb, 1, none⟩ = some vy := fun w2 hf => by
    have h1 := hf.bk hq.drew (by simp)
    have h2 := hf.bk hr.drew (by simp)
    have h3 := hf.bk ha.bk.drew (by simp)
    have h4 := hf.bk hb.bk.drew (by simp)
    exact ⟨by rw [h1.cell]; rfl, by rw [h2.cell]; rfl, h1.free _, h2.free _, by rw [h3.cell]; rfl, by rw [h4.cell]; rfl⟩
  have HFIN := Lib.hid hfin
  have HKA : Hid (∀ (u : World) (v : Value), u.cell? ⟨ab, 1, none⟩ = some va → u.cell? ⟨bb, 1, none⟩ = some vy → (u.setCell ⟨qb, 1, none⟩ v).cell? ⟨ab, 1, none⟩ = some va ∧ (u.setCell ⟨qb, 1, none⟩ v).cell? ⟨bb, 1, none⟩ = some vy) := fun u v h1 h2 => ⟨by rw [World.cell?_setCell_other _ ⟨qb, 1, none⟩ ⟨ab, 1, none⟩ _ (fun e => n2 (congrArg Addr.block e))]; exact h1, by rw [World.cell?_setCell_other _ ⟨qb, 1, none⟩ ⟨bb, 1, none⟩ _ (fun e => n3 (congrArg Addr.block e))]; exact h2⟩
  have HKB : Hid (∀ (u : World) (v v' : Value), u.cell? ⟨ab, 1, none⟩ = some va → u.cell? ⟨bb, 1, none⟩ = some vy → ((u.setCell ⟨qb, 1, none⟩ v).setCell ⟨rb, 1, none⟩ v').cell? ⟨ab, 1, none⟩ = some va ∧ ((u.setCell ⟨qb, 1, none⟩ v).setCell ⟨rb, 1, none⟩ v').cell? ⟨bb, 1, none⟩ = some vy) := fun u v v' h1 h2 => ⟨by rw [World.cell?_setCell_other _ ⟨rb, 1, none⟩ ⟨ab, 1, none⟩ _ (fun e => n4 (congrArg Addr.block e)), World.cell?_setCell_other _ ⟨qb, 1, none⟩ ⟨ab, 1, none⟩ _ (fun e => n2 (congrArg Addr.block e))]; exact h1, by rw [World.cell?_setCell_other _ ⟨rb, 1, none⟩ ⟨bb, 1, none⟩ _ (fun e => n5 (congrArg Addr.block e)), World.cell?_setCell_other _ ⟨qb, 1, none⟩ ⟨bb, 1, none⟩ _ (fun e => n3 (congrArg Addr.block e))]; exact h2⟩
  clear hfin
  go_enter Tryz.func228, Tryz.ntmps228
  go_upto_region 1 with (fail)
  go_cut [8] (fun _ wx => ∃ vq vr Q R, QR w wx qb rb vq vr Q R A y)
  case first =>
    go_region_with (first | (go_at_call 132; refine HS.out.mono ?_; rintro e w2 ⟨q2, lq, r2, rfl, hq2, hqn, ⟨lr, hr2, hrn, hval, hr0, hry⟩, hf2, hrest⟩; obtain ⟨g1, g2, g3, g4, g5, g6⟩ := HFIN.out w2 hf2; obtain ⟨aq, cq, rfl, hcq⟩ := hq2.form; obtain ⟨ar, cr, rfl, hcr⟩ := hr2.form; have H2 := Lib.hid (And.intro hq2 (And.intro hqn (And.intro hr2 (And.intro hrn (And.intro hval (And.intro hf2 hrest)))))); clear hq2 hqn hr2 hrn hval hf2 hrest))
    all_goals
      have hst : QR w ((w2.setCell ⟨qb, 1, none⟩ (.slice aq lq.length cq)).setCell ⟨rb, 1, none⟩ (.slice ar lr.length cr)) qb rb (.slice aq lq.length cq) (.slice ar lr.length cr) lq lr A y := by
        obtain ⟨k1, k2, k3, k4, k5, k6, k7, k8, k9, k10⟩ := H2.out
        have hb1 := ((k6.bk hq.drew (by simp [vb])).set 1 (.slice aq lq.length cq))
        have hb2 := ((k6.bk hr.drew (by simp [vb])))
        have hlt1 := hq.lt
        have hlt2 := hr.lt
        have hnew : ∀ b, b ∈ vb (.slice ar lr.length cr) → w.heap.size ≤ b := fun b hb => by
          rcases k8 b hb with h | h
          · simp [vb] at h
          · exact h
        refine ⟨hb1.set_ne _ _ (by simp; omega), (hb2.set_ne _ _ (by simp; omega)).set 1 _, ⟨_, _, rfl⟩, ⟨_, _, rfl⟩, ?_, k4, k10 (by simp [capOf]), ?_, ?_, ((((Fr.refl [qb, rb] w).drew).trans k6 (by simp [vb])).set _ _ (by simp)).set _ _ (by simp), hnew⟩
        · exact k3.fr (((Fr.refl [qb, rb] w2).set _ _ (by simp)).set _ _ (by simp)) (fun k hk hm => by have := hnew k hk; simp at hm; omega)
        · rw [← k5, Int.add_comm, Int.add_mul_emod_self_right]; exact (Int.emod_eq_of_lt hr0 hry).symm
        · rcases Nat.eq_zero_or_pos lq.length with h | h
          · exfalso
            rw [List.length_eq_zero_iff.1 h] at k5
            simp only [val] at k5
            omega
          · exact h
      have HST := Lib.hid hst
      clear hst
      go_wp2_with fail
      go_meet
      case rel => exact ⟨_, _, _, _, HST.out⟩
  case rest =>
    obtain ⟨vq, vr, Q, R, hQ⟩ := hcut
    obtain ⟨aq, cq, rfl⟩ := hQ.fq
    obtain ⟨ar, cr, rfl⟩ := hQ.fr'
    have ha' := ha.fr hQ.fr (by simp; omega) (fun k hk hm => by have := haw k hk; simp at hm; omega)
    have hb' := hb.fr hQ.fr (by simp; omega) (fun k hk hm => by have := hbw k hk; simp at hm; omega)
    have t1 : wc.cell? ⟨qb, 1, none⟩ = some (.slice aq Q.length cq) := by rw [hQ.q.cell]; rfl
    have t2 : wc.cell? ⟨rb, 1, none⟩ = some (.slice ar R.length cr) := by rw [hQ.r.cell]; rfl
    have t3 := ha'.c.c0
    have t4 := hb'.c.c0
    have t5 : wc.cell? ⟨qb, 0, none⟩ = some (.bool false) := by rw [hQ.q.cell]; rfl
    have t6 : wc.cell? ⟨rb, 0, none⟩ = some (.bool false) := by rw [hQ.r.cell]; rfl
    have t7 := hQ.q.free 0
    have t8 := hQ.r.free 0
    have hQ0 := hQ.qp
    have HQQ := Lib.hid hQ
    clear hQ
    have HKC : Hid (∀ (v : Value), ((wc.drew.setCell ⟨qb, 0, none⟩ v).cell? ⟨qb, 1, none⟩ = some (.slice aq Q.length cq) ∧ (wc.drew.setCell ⟨qb, 0, none⟩ v).cell? ⟨rb, 1, none⟩ = some (.slice ar R.length cr) ∧ (wc.drew.setCell ⟨qb, 0, none⟩ v).cell? ⟨ab, 0, none⟩ = some (.bool false) ∧ (wc.drew.setCell ⟨qb, 0, none⟩ v).cell? ⟨bb, 0, none⟩ = some (.bool false))) := fun v => by
      refine ⟨?_, ?_, ?_, ?_⟩
      · rw [World.cell?_setCell_other _ ⟨qb, 0, none⟩ ⟨qb, 1, none⟩ _ (fun e => by cases e)]; exact t1
      · rw [World.cell?_setCell_other _ ⟨qb, 0, none⟩ ⟨rb, 1, none⟩ _ (fun e => n1 (congrArg Addr.block e))]; exact t2
      · rw [World.cell?_setCell_other _ ⟨qb, 0, none⟩ ⟨ab, 0, none⟩ _ (fun e => n2 (congrArg Addr.block e))]; exact t3
      · rw [World.cell?_setCell_other _ ⟨qb, 0, none⟩ ⟨bb, 0, none⟩ _ (fun e => n3 (congrArg Addr.block e))]; exact t4
    have HKD : Hid (∀ (v v' : Value), (((wc.drew.setCell ⟨qb, 0, none⟩ v).setCell ⟨rb, 0, none⟩ v').cell? ⟨qb, 1, none⟩ = some (.slice aq Q.length cq) ∧ ((wc.drew.setCell ⟨qb, 0, none⟩ v).setCell ⟨rb, 0, none⟩ v').cell? ⟨rb, 1, none⟩ = some (.slice ar R.length cr) ∧ ((wc.drew.setCell ⟨qb, 0, none⟩ v).setCell ⟨rb, 0, none⟩ v').cell? ⟨ab, 0, none⟩ = some (.bool false) ∧ ((wc.drew.setCell ⟨qb, 0, none⟩ v).setCell ⟨rb, 0, none⟩ v').cell? ⟨bb, 0, none⟩ = some (.bool false))) := fun v v' => by
      obtain ⟨a1, a2, a3, a4⟩ := HKC.out v
      refine ⟨?_, ?_, ?_, ?_⟩
      · rw [World.cell?_setCell_other _ ⟨rb, 0, none⟩ ⟨qb, 1, none⟩ _ (fun e => n1 (congrArg Addr.block e).symm)]; exact a1
      · rw [World.cell?_setCell_other _ ⟨rb, 0, none⟩ ⟨rb, 1, none⟩ _ (fun e => by cases e)]; exact a2
      · rw [World.cell?_setCell_other _ ⟨rb, 0, none⟩ ⟨ab, 0, none⟩ _ (fun e => n4 (congrArg Addr.block e))]; exact a3
      · rw [World.cell?_setCell_other _ ⟨rb, 0, none⟩ ⟨bb, 0, none⟩ _ (fun e => n5 (congrArg Addr.block e))]; exact a4
    have HE : Hid (∀ wz, wz = ((wc.setCell ⟨qb, 0, none⟩ (.bool false)).setCell ⟨rb, 0, none⟩ (.bool false)).drew → IntB wz rb (.slice ar R.length cr) R ∧ val R = val A % y ∧ Fr [qb, rb] w wz) := fun wz he => by
      subst he
      obtain ⟨p1, p2, p3, p4, p5, p6, p7, p8, p9, p10, p11⟩ := HQQ.out
      have hrlt := hr.lt
      have hqlt := hq.lt
      refine ⟨⟨((p2.set_ne _ _ (by simp; omega)).set 0 _).drew, ?_, p6, p7, fun h => by have := p11 _ h; omega⟩, p8, (((p10.set _ _ (by simp)).set _ _ (by simp))).drew⟩
      exact p5.fr ((((Fr.refl [qb, rb] wc).set ⟨qb, 0, none⟩ _ (by simp)).set ⟨rb, 0, none⟩ _ (by simp)).drew) (fun k hk hm => by have := p11 k hk; simp at hm; omega)
    have d1 : decide ((0 : Int) < (Q.length : Int)) = true := decide_eq_true (by omega)
    have d1' : decide ((Q.length : Int) > 0) = true := decide_eq_true (by omega)
    rcases Nat.eq_zero_or_pos R.length with hR0 | hR0
    · obtain rfl : R = [] := List.length_eq_zero_iff.1 hR0
      simp only [List.length_nil] at *
      clear hR0
      go_wp2_with fail
      go_region
      all_goals
        go_wp2_with fail
        go_ret2
        obtain ⟨x1, x2, x3⟩ := HE.out _ rfl
        exact ⟨_, _, rfl, x1, x2, x3⟩
    · have d2 : decide ((0 : Int) < (R.length : Int)) = true := decide_eq_true (by omega)
      have d2' : decide ((R.length : Int) > 0) = true := decide_eq_true (by omega)
      go_wp2_with fail
      go_region_held3 (fun u => u.cell? ⟨qb, 1, none⟩ = some (.slice aq Q.length cq) ∧ u.cell? ⟨rb, 1, none⟩ = some (.slice ar R.length cr) ∧ u.cell? ⟨ab, 0, none⟩ = some (.bool false) ∧ u.cell? ⟨bb, 0, none⟩ = some (.bool false)) (first | exact ⟨t1, t2, t3, t4⟩ | exact HKC.out _ | exact HKD.out _ _) (first | fail)
      all_goals
        go_wp2_with fail
        go_ret2
        obtain ⟨x1, x2, x3⟩ := HE.out _ rfl
        exact ⟨_, _, rfl, x1, x2, x3⟩
end Go.Proofs.YtfbbkngonohlkaaGreatDoor
