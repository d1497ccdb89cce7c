/- Joined texts: Fl10, Fl11. -/
import Derived.Test.YtfbbkngonohlkaaGreatDoorJFl3
import Derived.Test.YtfbbkngonohlkaaGreatDoorJNorm
/- Float.uquo of a number by a number, into the first; what it divides, handed in. -/
namespace Go.Proofs.YtfbbkngonohlkaaGreatDoor
open Go Go.RowKit
set_option linter.unusedVariables false
set_option linter.unusedSimpArgs false
/-- What a division leaves: a quotient that is not zero. -/
structure DivR (u w' : World) (va q : Value) (nq : Nat) : Prop where
  ex : ∃ l, l.length = nq ∧ NatV w' q l ∧ Nrm l
  n0 : 0 < nq
  n1 : nq ≤ 30
  fr : Fr (vb va) u w'
  inn : ∀ k, k ∈ vb q → k ∈ vb va ∨ u.heap.size ≤ k
  cap : capOf q ≤ 9223372036854775807
def DivC (d : Nat) (va vy : Value) (A Y : List Int) : Prop := ∀ u xv s, NatV u xv (List.replicate d 0 ++ A) → NatV u va A → NatV u vy Y → (∀ k, k ∈ vb xv → k ∉ vb va) → Calls Tryz.prog 132 #[va, s, .slice none 0 0, xv, vy] u fun e w' => ∃ aq nq cq ar nr cr, e = .returned (.tuple #[.slice aq nq cq, .slice ar nr cr]) ∧ Hid (DivR u w' va (.slice aq nq cq) nq)
/-- Behind the laying out of the dividend. -/
structure UqA (w wx : World) (b c : Nat) (p2 : Nat) (acc acc2 ex ey : Int) (neg neg2 : Bool) (va vy xv : Value) (A Y X : List Int) : Prop where
  fb : FlB wx b 512 acc 1 neg va ex A
  fc : FlB wx c p2 acc2 1 neg2 vy ey Y
  xn : NatV wx xv X
  fr : Fr [] w wx
  xa : ∀ k, k ∈ vb xv → w.heap.size ≤ k
/-- Behind the division. -/
structure UqB (w wx : World) (b c sb : Nat) (p2 : Nat) (acc acc2 ex ey : Int) (neg neg2 : Bool) (va vy q : Value) (Y : List Int) (nq : Nat) : Prop where
  fb : ∃ l, l.length = nq ∧ FlB wx b 512 acc 1 neg q ex l ∧ Nrm l
  fc : FlB wx c p2 acc2 1 neg2 vy ey Y
  n0 : 0 < nq
  n1 : nq ≤ 30
  fr : Fr (b :: vb va) w wx
  inn : ∀ k, k ∈ vb q → k ∈ vb va ∨ w.heap.size ≤ k
  st : Bk wx sb 240 [.pointer none]
theorem UqB.drewN {w wx : World} {b c sb p2 : Nat} {acc acc2 ex ey : Int} {neg neg2 : Bool} {va vy q : Value} {Y : List Int} {nq : Nat} (h : UqB w wx b c sb p2 acc acc2 ex ey neg neg2 va vy q Y nq) (k : Nat) : UqB w (wx.drewN k) b c sb p2 acc acc2 ex ey neg neg2 va vy q Y nq := by
  obtain ⟨⟨l, l1, l2, l3⟩, h2, h3, h4, h5, h6, h7⟩ := h
  exact ⟨⟨l, l1, l2.drewN k, l3⟩, h2.drewN k, h3, h4, h5.drewN k, h6, h7.drewN k⟩
set_option maxRecDepth 1000000 in
set_option maxHeartbeats 2000000 in
theorem uquo_any {w : World} {b c p2 d : Nat} {acc acc2 ex ey : Int} {neg neg2 : Bool} {va vy : Value} {A Y : List Int} (hx : FlB w b 512 acc 1 neg va ex A) (hy : FlB w c p2 acc2 1 neg2 vy ey Y) (hA1 : A.length = 1) (hY1 : Y.length ≤ 20) (hd : d = 8 + Y.length)
    (hbc : b ≠ c) (hbv : b ∉ vb vy) (hcv : c ∉ vb va) (hdj : ∀ k, k ∈ vb va → k ∉ vb vy) (hx0 : -400 ≤ ex) (hx1 : ex ≤ 400) (hy0 : -1000 ≤ ey) (hy1 : ey ≤ 1000) (HD : Hid (DivC d va vy A Y)) :
    Calls Tryz.prog 235 #[.pointer (some ⟨b, 0, none⟩), .pointer (some ⟨b, 0, none⟩), .pointer (some ⟨c, 0, none⟩)] w fun e w' => e = .returned (.tuple #[]) ∧ Hid (∃ va', FlF w' b 512 neg va' (-3000) 3000 8 ∧ (∀ k, k ∈ vb va' → k ∈ vb va ∨ w.heap.size ≤ k) ∧ Fr (b :: vb va) w w') := by
  have cx := hx.cs
  have cy := hy.cs
  obtain ⟨mb, hat⟩ := hx.av.at (by omega)
  obtain ⟨tA, J, hva, hrow, hws⟩ := hat
  rw [hA1] at hva
  obtain ⟨aY, cY, hvy, hcY⟩ := hy.av.form
  obtain ⟨cap, hcap⟩ : ∃ cap, cap = 1 + J.length := ⟨_, rfl⟩
  rw [← hcap] at hva
  subst hva
  subst hvy
  obtain ⟨L, hL⟩ : ∃ L, L = Y.length := ⟨_, rfl⟩
  rw [← hL] at cy hd hcY HD hbv hdj hy
  have e1 : ∀ k, (w.drewN k).cell? ⟨b, 5, none⟩ = some (.slice (some ⟨mb, 0, none⟩) 1 cap) := fun k => cx.c5
  have e2 : ∀ k, (w.drewN k).cell? ⟨c, 5, none⟩ = some (.slice aY L cY) := fun k => cy.c5
  have g0 := cx.c0
  have g5 := cx.c5
  have h5 := cy.c5
  have e3 : IntKind.i64.wrap (8 + (L : Int)) = (d : Int) := by rw [IntWalk.i64_in _ (by omega)]; omega
  have e4 : decide ((d : Int) > 0) = true := decide_eq_true (by omega)
  have e5 : (0 : Int) < (d : Int) := by omega
  have e4b : decide ((0 : Int) < (d : Int)) = true := decide_eq_true (by omega)
  have e4c : decide (0 < d) = true := decide_eq_true (by omega)
  obtain ⟨N, hN⟩ : ∃ N : Nat, N = 1 + d := ⟨_, rfl⟩
  have e6 : IntKind.i64.wrap (1 + (d : Int)) = (N : Int) := by rw [IntWalk.i64_in _ (by omega)]; omega
  obtain ⟨D9, hD9⟩ : ∃ D : Nat, D = N - L := ⟨_, rfl⟩
  have e7 : IntKind.i64.wrap ((N : Int) - (L : Int)) = (D9 : Int) := by rw [IntWalk.i64_in _ (by omega)]; omega
  have hmk := fun u => run_mk (n := N) (c := N) (Nat.le_refl _) (by omega) u N N rfl rfl
  have e8 : N - d = 1 := by omega
  have e9 : (d : Int) ≤ (N : Int) := by omega
  have e10 : (d : Int) < (N : Int) := by omega
  have e11 : d < N := by omega
  have e12 : ¬ (d = N) := by omega
  have hcpw : ∀ (u : World) (ty : TypeId), Fr [] w u → (Builtin.copy_ #[108, 108] ty #[.slice (some ⟨u.heap.size, d, none⟩) 1 1, .slice (some ⟨mb, 0, none⟩) 1 cap]).run Tryz.prog (u.alloc (.cells (zrow N) 162)).drew = .ok (.int .i64 1) ((u.alloc (.cells (zrow N) 162)).drew.setCells u.heap.size d (cells (seg (A ++ J) 0 1))) := fun u ty hu => by
    exact run_copyW (n := 1) _ Tryz.underlying108 (D := List.replicate N 0) (t := 162) (Bk.newA u 162 (zrow N)).drew ((hu.alloc _).bk hrow (by simp)).drew rfl (by simp; omega) (by simp; omega)
  have HA1 := Lib.hid hA1
  have HUA : Hid (∀ u, Fr [] w u → UqA w ((u.alloc (.cells (zrow N) 162)).drew.setCells u.heap.size d (cells (seg (A ++ J) 0 1))) b c p2 acc acc2 ex ey neg neg2 (.slice (some ⟨mb, 0, none⟩) 1 cap) (.slice aY L cY) (.slice (some ⟨u.heap.size, 0, none⟩) N N) A Y (List.replicate d 0 ++ A)) := fun u hu => by
    have hn : Bk (u.alloc (.cells (zrow N) 162)).drew u.heap.size 162 (cells (List.replicate N 0)) := (Bk.newA u 162 (zrow N)).drew
    have hsg : seg (A ++ J) 0 1 = A := by
      unfold seg
      rw [List.drop_zero, List.take_append_of_le_length (by omega), List.take_of_length_le (by omega)]
    rw [hsg]
    have h1 := Bk.setCells A d (List.replicate N 0) _ hn (by simp; omega)
    have hsz := hu.size
    have hf0 : Fr [] w (u.alloc (.cells (zrow N) 162)).drew := (hu.alloc _).drew
    have hf : Fr [] w ((u.alloc (.cells (zrow N) 162)).drew.setCells u.heap.size d (cells A)) := Fr.setCells _ _ _ hf0 (.inr hsz)
    have hsp : splice (List.replicate N 0) d A = (List.replicate d 0 ++ A) ++ [] := by
      unfold splice
      rw [List.take_replicate, List.drop_replicate, Nat.min_eq_left (by omega), show N - (d + A.length) = 0 by omega]
      simp
    rw [hsp] at h1
    have hlen : (List.replicate d (0 : Int) ++ A).length = N := by simp; omega
    refine ⟨hx.fr hf (by simp) (by simp), ?_, .inr ⟨u.heap.size, 162, [], by rw [hlen]; rfl, h1, (Ws.replicate d).append hws⟩, hf, fun k hk => by simp [vb] at hk; omega⟩
    exact hy.fr hf (by simp) (by simp)
  have HST := fun u : World => Lib.hid (getStack_any (w := u))
  have HD9 : Hid (D9 = 9) := by unfold Hid; omega
  have HMB : Hid (mb < w.heap.size) := hrow.lt
  have HB := Lib.hid (And.intro hx.bk.lt (And.intro hbc (And.intro hbv (And.intro hcv hdj))))
  clear hx hy hrow hws cx cy hA1 hd hN hD9 hL hcap hbc hbv hcv hdj
  go_enter_defers Tryz.func235, Tryz.ntmps235
  go_upto_region 2 with fail
  go_quiet (fail)
  go_upto_if 39 with fail
  have HW1 : Hid (Fr [] w (w.drewN nq)) := (Fr.refl [] w).drewN nq
  have e2' := e2 nq
  have e1' := e1 nq
  generalize w.drewN nq = W1 at *
  go_cut [7] from 40 to 55 (fun xv wx => ∃ a, xv = .slice a N N ∧ Hid (UqA w wx b c p2 acc acc2 ex ey neg neg2 (.slice (some ⟨mb, 0, none⟩) 1 cap) (.slice aY L cY) (.slice a N N) A Y (List.replicate d 0 ++ A)))
  case first =>
    have e1a : (W1.alloc (.cells (zrow N) 162)).cell? ⟨b, 5, none⟩ = some (.slice (some ⟨mb, 0, none⟩) 1 cap) := by
      rw [((Fr.refl [] W1).alloc _).cell (p := ⟨b, 5, none⟩) (by have := HB.out.1; have := HW1.out.size; show b < _; omega) (by simp)]; exact e1'
    have hcp := fun ty => hcpw W1 ty HW1.out
    have hbl : b < W1.heap.size := by have := HB.out.1; have := HW1.out.size; omega
    have hbn : ¬ (b = W1.heap.size) := by omega
    have hbn2 : ¬ (W1.heap.size = b) := by omega
    have HU1 := Lib.hid (HUA.out W1 HW1.out)
    clear hcpw HUA e1 e2 e2' g0 g5 h5
    go_upto_region 5 with fail
    clear hmk
    generalize hW2 : W1.alloc (.cells (zrow N) 162) = W2 at *
    clear hW2
    go_still_tail 7, (by kernel_rfl)
    change wpList _ _ _ _ _ W2.drew
    go_wp2_with fail
    go_meet
    case rel => exact ⟨_, rfl, HU1.out⟩
  case rest =>
    obtain ⟨ax, rfl, hU⟩ := hcut
    clear hcpw HUA e1 e2 e1' e2' g0 g5 h5 hmk
    generalize wc = W5 at *
    have h5 : W5.cell? ⟨c, 5, none⟩ = some (.slice aY L cY) := hU.out.fc.cs.c5
    have HU6 : Hid (UqA w (W5.alloc (.cells #[.pointer none] 240)) b c p2 acc acc2 ex ey neg neg2 (.slice (some ⟨mb, 0, none⟩) 1 cap) (.slice aY L cY) (.slice ax N N) A Y (List.replicate d 0 ++ A)) := by
      obtain ⟨q1, q2, q3, q4, q5⟩ := hU.out
      have hf : Fr [] W5 (W5.alloc (.cells #[.pointer none] 240)) := (Fr.refl [] W5).alloc _
      exact ⟨q1.fr hf (by simp) (by simp), q2.fr hf (by simp) (by simp), q3.fr hf (by simp), q4.trans hf (by simp), q5⟩
    have HST6 : Hid (Bk (W5.alloc (.cells #[.pointer none] 240)) W5.heap.size 240 [.pointer none]) := Bk.new W5 240 _
    have HSZ : Hid (w.heap.size ≤ W5.heap.size) := hU.out.fr.size
    go_upto_region 10 with (go_at_call 106; refine (HST W5).out.mono ?_; rintro e w1 ⟨rfl, rfl⟩)
    generalize hW5 : W5.heap.size = sb at *
    generalize W5.alloc (.cells #[.pointer none] 240) = W6 at *
    clear hW5 h5
    have x5 : W6.cell? ⟨b, 5, none⟩ = some (.slice (some ⟨mb, 0, none⟩) 1 cap) := HU6.out.fb.cs.c5
    have y5 : W6.cell? ⟨c, 5, none⟩ = some (.slice aY L cY) := HU6.out.fc.cs.c5
    have HDV : Hid (Calls Tryz.prog 132 #[.slice (some ⟨mb, 0, none⟩) 1 cap, .pointer (some ⟨sb, 0, none⟩), .slice none 0 0, .slice ax N N, .slice aY L cY] W6.drew fun e w' => ∃ aq nq cq ar nr cr, e = .returned (.tuple #[.slice aq nq cq, .slice ar nr cr]) ∧ w'.cell? ⟨b, 5, none⟩ = some (.slice (some ⟨mb, 0, none⟩) 1 cap) ∧ w'.frozen? ⟨b, 5, none⟩ = false ∧ Hid (UqB w (w'.setCell ⟨b, 5, none⟩ (.slice aq nq cq)) b c sb p2 acc acc2 ex ey neg neg2 (.slice (some ⟨mb, 0, none⟩) 1 cap) (.slice aY L cY) (.slice aq nq cq) Y nq)) := by
      obtain ⟨q1, q2, q3, q4, q5⟩ := HU6.out
      obtain ⟨r1, r2, r3, r4, r5⟩ := HB.out
      have hmb := q1.av.lt mb (by simp [vb])
      have hmbw : mb < w.heap.size := HMB.out
      refine (HD.out W6.drew _ _ (q3.fr ((Fr.refl [] W6).drew) (by simp)) (q1.av.fr ((Fr.refl [] W6).drew) (by simp)) (q2.av.fr ((Fr.refl [] W6).drew) (by simp)) (fun k hk hk2 => by have := q5 k hk; simp [vb] at hk2; omega)).mono ?_
      rintro e w' ⟨aq, nq, cq, ar, nr, cr, rfl, hh⟩
      obtain ⟨⟨l, l1, l2, l3⟩, n0, n1, f, i1, cp⟩ := hh.out
      have hbm : b ∉ vb (.slice (some ⟨mb, 0, none⟩) 1 cap) := q1.ap
      have hb := f.bk (q1.bk.drew) hbm
      have hsz : w.heap.size ≤ W6.heap.size := q4.size
      have hapq : b ∉ vb (.slice aq nq cq) := fun hk => by
        rcases i1 b hk with h | h
        · exact hbm h
        · have : W6.heap.size ≤ b := h
          omega
      have hf1 : Fr (vb (.slice (some ⟨mb, 0, none⟩) 1 cap)) W6 w' := ((Fr.refl _ W6).drew).trans f (fun x hx => .inl hx)
      have hf2 : Fr (b :: vb (.slice (some ⟨mb, 0, none⟩) 1 cap)) W6 (w'.setCell ⟨b, 5, none⟩ (.slice aq nq cq)) := (hf1.mono (fun x hx => .inl (List.mem_cons_of_mem _ hx))).set _ _ (by simp)
      refine ⟨aq, nq, cq, ar, nr, cr, rfl, by rw [hb.cell]; rfl, hb.free 5, Lib.hid ⟨⟨l, l1, FlB.setMant (A := A) hb l2 hapq cp, l3⟩, ?_, n0, n1, (q4.mono (by simp)).trans hf2 (fun x hx => .inl hx), fun k hk => ?_, hf2.bk HST6.out ?_⟩⟩
      · refine q2.fr hf2 ?_ ?_
        · intro hm
          rcases List.mem_cons.1 hm with h | h
          · exact r2 h.symm
          · exact r4 h
        · intro k hk hm
          rcases List.mem_cons.1 hm with h | h
          · exact r3 (h ▸ hk)
          · exact r5 k h hk
      · rcases i1 k hk with h | h
        · exact .inl h
        · exact .inr (Nat.le_trans hsz h)
      · intro hm
        have hs6 := HSZ.out
        rcases List.mem_cons.1 hm with h | h
        · omega
        · simp [vb] at h; omega
    clear HU6 HST HST6 hU HD
    go_cut [11] from 66 to 82 (fun rv wx => ∃ aq nq cq ar nr cr, rv = .slice ar nr cr ∧ Hid (UqB w wx b c sb p2 acc acc2 ex ey neg neg2 (.slice (some ⟨mb, 0, none⟩) 1 cap) (.slice aY L cY) (.slice aq nq cq) Y nq))
    case first =>
      refine wp_region_noPanic ?_
      go_region_with (go_at_call 132; refine HDV.out.mono ?_; rintro e w6 ⟨aq, nq, cq, ar, nr, cr, rfl, k1, k2, hq⟩)
      all_goals (refine NoPanic.normal ?_)
      all_goals
        go_wp2_with fail
        go_meet
        case rel => exact ⟨aq, nq, cq, ar, nr, cr, rfl, hq⟩
    case rest =>
      obtain ⟨aq, n7, cq, ar, nr, cr, rfl, hQ⟩ := hcut
      generalize wc = W7 at *
      have z1 : ∀ k, (W7.drewN k).cell? ⟨b, 6, none⟩ = some (.int .i32 ex) := fun k => by
        obtain ⟨l, l1, l2, l3⟩ := (hQ.out.drewN k).fb
        exact l2.cs.c6
      have z2 : ∀ k, (W7.drewN k).cell? ⟨c, 6, none⟩ = some (.int .i32 ey) := fun k => (hQ.out.drewN k).fc.cs.c6
      have z3 : ∀ k, (W7.drewN k).cell? ⟨b, 5, none⟩ = some (.slice aq n7 cq) := fun k => by
        obtain ⟨l, l1, l2, l3⟩ := (hQ.out.drewN k).fb
        exact l2.cs.c5
      have z1a := z1 0
      have z2a := z2 0
      have z3a := z3 0
      have hn0 := hQ.out.n0
      have hn1 := hQ.out.n1
      obtain ⟨E1, hE1⟩ : ∃ E : Int, E = ex - ey := ⟨_, rfl⟩
      obtain ⟨DQ, hDQ⟩ : ∃ E : Int, E = (D9 : Int) - (n7 : Int) := ⟨_, rfl⟩
      obtain ⟨D64, hD64⟩ : ∃ E : Int, E = DQ * 64 := ⟨_, rfl⟩
      obtain ⟨E2, hE2⟩ : ∃ E : Int, E = E1 - D64 := ⟨_, rfl⟩
      have hd9 := HD9.out
      have f1 : IntKind.i64.wrap ex = ex := IntWalk.i64_in _ (by omega)
      have f2 : IntKind.i64.wrap ey = ey := IntWalk.i64_in _ (by omega)
      have f3 : IntKind.i64.wrap (ex - ey) = E1 := by rw [IntWalk.i64_in _ (by omega)]; omega
      have f4 : IntKind.i64.wrap ((D9 : Int) - (n7 : Int)) = DQ := by rw [IntWalk.i64_in _ (by omega)]; omega
      have f5 : IntKind.i64.wrap (DQ * 64) = D64 := by rw [IntWalk.i64_in _ (by omega)]; omega
      have f6 : IntKind.i64.wrap (E1 - D64) = E2 := by rw [IntWalk.i64_in _ (by omega)]; omega
      have hEb : -2000 ≤ E2 ∧ E2 ≤ 2900 := by omega
      clear hE1 hDQ hD64 hE2 hd9
      go_upto_region 11 with fail
      go_quiet (fail)
      go_upto_region 12 with fail
      have HQ8 := Lib.hid (hQ.out.drewN nq)
      have z38 := z3 nq
      generalize W7.drewN nq = W8 at *
      clear z1 z2 z3 z1a z2a z3a hQ HDV x5 y5
      have HFN : Hid (Calls Tryz.prog 194 #[.slice aq n7 cq] W8 fun e w' => ∃ s : Nat, e = .returned (.int .i64 (s : Int)) ∧ s ≤ 63 ∧ Hid (∃ l', FlB w' b 512 acc 1 neg (.slice aq n7 cq) ex l' ∧ Msb l' ∧ l'.length = n7 ∧ Bk w' sb 240 [.pointer none] ∧ Fr (b :: vb (.slice (some ⟨mb, 0, none⟩) 1 cap)) w w')) := by
        obtain ⟨⟨l, l1, l2, l3⟩, p2, p3, p4, p5, p6, p7⟩ := HQ8.out
        obtain ⟨qb, hat⟩ := l2.av.at (by omega)
        have hvb := hat.vb
        refine (fnorm_any hat (by omega) (by omega) l3).mono ?_
        rintro e w' ⟨s, rfl, hs, hh⟩
        obtain ⟨l', q1, q2, q3, q4⟩ := hh.out
        have hbq : b ≠ qb := fun e => l2.ap (by rw [hvb]; simp [e])
        refine ⟨s, rfl, hs, Lib.hid ⟨l', ⟨q4.bk l2.bk (by simp; exact hbq), .inr ⟨qb, q1⟩, l2.ap, l2.cap⟩, q2, by omega, q4.bk p7 ?_, p5.trans q4 ?_⟩⟩
        · intro hm
          simp at hm
          subst hm
          have h2 := p7
          obtain ⟨t, J2, _, h1, _⟩ := q1
          obtain ⟨t3, J3, _, h3, _⟩ := hat
          unfold Bk at h2 h3
          rw [h2] at h3
          injection h3 with h3
          injection h3 with h3
          have h4 := congrArg Array.toList h3
          simp only [List.toArray, Array.toList] at h4
          cases l with
          | nil => simp at l1; omega
          | cons x l => simp [cells] at h4
        · intro x hx
          simp at hx
          subst hx
          rcases p6 x (by rw [hvb]; simp) with h | h
          · exact .inl (List.mem_cons_of_mem _ h)
          · exact .inr h
      have HSE : Hid (∀ (w9 : World) (s sb' : Nat), s ≤ 63 → sb' ≤ 1 → Hid (∃ l', FlB w9 b 512 acc 1 neg (.slice aq n7 cq) ex l' ∧ Msb l' ∧ l'.length = n7 ∧ Bk w9 sb 240 [.pointer none] ∧ Fr (b :: vb (.slice (some ⟨mb, 0, none⟩) 1 cap)) w w9) → Hid (Calls Tryz.prog 261 #[.pointer (some ⟨b, 0, none⟩), .int .i64 (E2 - (s : Int)), .int .u64 (sb' : Int)] w9 fun e w' => e = .returned (.tuple #[]) ∧ Hid (∃ va', FlF w' b 512 neg va' (-3000) 3000 8 ∧ (∀ k, k ∈ vb va' → k ∈ vb (.slice (some ⟨mb, 0, none⟩) 1 cap) ∨ w.heap.size ≤ k) ∧ Fr (b :: vb (.slice (some ⟨mb, 0, none⟩) 1 cap)) w w' ∧ Bk w' sb 240 [.pointer none]))) := fun w9 s sb' hs hsb hh => by
        obtain ⟨l', q1, q2, q3, q4, q5⟩ := hh.out
        have hin := HQ8.out.inn
        refine (setExp_any (n := 8) (p := 512) q1 (by omega) rfl (by omega) (by omega) q2 hsb (by omega) (by omega)).mono ?_
        rintro e w' ⟨rfl, hr⟩
        obtain ⟨va', r1, r2, r3⟩ := hr.out
        refine ⟨rfl, Lib.hid ⟨va', ?_, fun k hk => hin k (r2 k hk), q5.trans r3 ?_, r3.bk q4 ?_⟩⟩
        · obtain ⟨a1, x1, A1, g1, g2, g3, g4, g5⟩ := r1
          exact ⟨a1, x1, A1, g1, g2, g3, by omega, by omega⟩
        · intro x hx
          rcases List.mem_cons.1 hx with h | h
          · exact .inl (by simp [h])
          · rcases hin x h with h | h
            · exact .inl (List.mem_cons_of_mem _ h)
            · exact .inr h
        · intro hm
          rcases List.mem_cons.1 hm with h | h
          · have h1 := q1.bk
            have h2 := q4
            rw [h] at h2
            unfold Bk at h1 h2
            rw [h1] at h2
            injection h2 with h2
            injection h2 with _ h2
            exact absurd h2 (by decide)
          · obtain ⟨qb, hat⟩ := q1.av.at (by omega)
            rw [hat.vb] at h
            simp at h
            subst h
            obtain ⟨t3, J3, _, h3, _⟩ := hat
            have h2 := q4
            unfold Bk at h2 h3
            rw [h2] at h3
            injection h3 with h3
            injection h3 with h3
            have h4 := congrArg Array.toList h3
            simp only [List.toArray, Array.toList] at h4
            cases l' with
            | nil => simp at q3; omega
            | cons x l => simp [cells] at h4
      have hsw : ∀ s : Nat, s ≤ 63 → IntKind.i64.wrap (E2 - (s : Int)) = E2 - (s : Int) := fun s hs => IntWalk.i64_in _ (by omega)
      have hnr : ∃ sb' : Nat, sb' ≤ 1 ∧ True := ⟨0, by omega, trivial⟩
      rcases Nat.eq_zero_or_pos nr with rfl | hnr0
      · go_wp2_with (first | (have hh := h9; go_at_call 261; refine (HSE.out w9 s 0 hs9 (by omega) h9).out.mono ?_; rintro e w10 ⟨rfl, h10⟩) | (go_at_call 194; refine HFN.out.mono ?_; rintro e w9 ⟨s, rfl, hs9, h9⟩; have hsw9 := hsw s hs9))
        obtain ⟨va', r1, r2, r3, r4⟩ := h10.out
        have HR := Lib.hid (And.intro r1 (And.intro r2 r3))
        refine leaves_cons (f := 107) (args := #[.pointer (some ⟨sb, 0, none⟩)]) (by simp) (by simp [go_sem]) ?_
        refine (free_d .returning r4).mono ?_
        rintro e u' w'' ⟨rfl, rfl, rfl⟩
        exact ⟨_, results_none rfl _ _ _, rfl, va', HR.out⟩
      · have hnr1 : decide ((nr : Int) > 0) = true := decide_eq_true (by omega)
        go_wp2_with (first | (have hh := h9; go_at_call 261; refine (HSE.out w9 s 1 hs9 (by omega) h9).out.mono ?_; rintro e w10 ⟨rfl, h10⟩) | (go_at_call 194; refine HFN.out.mono ?_; rintro e w9 ⟨s, rfl, hs9, h9⟩; have hsw9 := hsw s hs9))
        obtain ⟨va', r1, r2, r3, r4⟩ := h10.out
        have HR := Lib.hid (And.intro r1 (And.intro r2 r3))
        refine leaves_cons (f := 107) (args := #[.pointer (some ⟨sb, 0, none⟩)]) (by simp) (by simp [go_sem]) ?_
        refine (free_d .returning r4).mono ?_
        rintro e u' w'' ⟨rfl, rfl, rfl⟩
        exact ⟨_, results_none rfl _ _ _, rfl, va', HR.out⟩
end Go.Proofs.YtfbbkngonohlkaaGreatDoor
/- Float.Quo of a number by a number, into the first; the division by one word. -/
namespace Go.Proofs.YtfbbkngonohlkaaGreatDoor
open Go Go.RowKit
set_option linter.unusedVariables false
set_option linter.unusedSimpArgs false
theorem divC_one {d : Nat} {va vy : Value} {A Y : List Int} (hA : A.length = 1) (hMA : Msb A) (hwA : Ws A) (hY : Y.length = 1) (hMY : Msb Y) (hwY : Ws Y) (hd1 : 1 ≤ d) (hd : d ≤ 28) (hca : capOf va ≤ 9223372036854775807) : DivC d va vy A Y := by
  intro u xv s hx ha hy hap
  obtain ⟨y, rfl⟩ := List.length_eq_one_iff.1 hY
  obtain ⟨x, rfl⟩ := List.length_eq_one_iff.1 hA
  have hx0 : x ≠ 0 := by
    have := (hMA.nrm hwA) (by simp)
    simpa using this
  have hy0 : y ≠ 0 := by
    have := (hMY.nrm hwY) (by simp)
    simpa using this
  have hxw := hwA x (by simp)
  have hyw := hwY y (by simp)
  have hv : val (List.replicate d 0 ++ [x]) = BB d * x := by rw [val_append, val_replicate, List.length_replicate, val_single, Int.zero_add]
  have hB : BB 1 ≤ BB d := BB_mono hd1
  rw [BB_one] at hB
  have hX : BB d * 1 ≤ BB d * x := Int.mul_le_mul_of_nonneg_left (by omega) (Int.le_of_lt (BB_pos d))
  refine (div_one (s := s) ha (NatV.nil u) hx hy (Nrm.snoc hx0) (by simp; omega) hy0 (fun b hb => by simp [vb])).mono ?_
  rintro e w' ⟨q, l, r, rfl, h1, h2, ⟨m, g1, g2, g3, g4, g5⟩, h4, h5, h6, h7, h8⟩
  obtain ⟨aq, cq, rfl, _⟩ := h1.form
  obtain ⟨ar, cr, rfl, _⟩ := g1.form
  rw [hv] at g3
  have hl0 : 0 < l.length := by
    refine Nat.pos_of_ne_zero fun h0 => ?_
    rw [List.length_eq_zero_iff.1 h0] at g3
    simp only [val] at g3
    omega
  have hvl := val_nonneg h1.ws
  have hl1 : l.length ≤ d + 1 := by
    refine len_le_of_val h2 h1.ws ?_
    have h9 : val l * 1 ≤ val l * y := Int.mul_le_mul_of_nonneg_left (by omega) hvl
    have h10 : BB d * x < BB d * 18446744073709551616 := Int.mul_lt_mul_of_pos_left hxw.2 (BB_pos d)
    rw [BB_succ, Int.mul_comm 18446744073709551616]
    omega
  exact ⟨aq, _, cq, ar, _, cr, rfl, ⟨⟨l, rfl, h1, h2⟩, hl0, by omega, h4.mono (fun x hx => .inl ((List.mem_append.1 hx).elim id (fun h => by cases h))), h5, h7 hca⟩⟩
set_option maxRecDepth 100000 in
theorem quo_any {w : World} {b c p2 d : Nat} {acc acc2 ex ey : Int} {va vy : Value} {A Y : List Int} (hx : FlB w b 512 acc 1 false va ex A) (hy : FlB w c p2 acc2 1 false vy ey Y) (hA1 : A.length = 1) (hY1 : Y.length ≤ 20) (hd : d = 8 + Y.length)
    (hbc : b ≠ c) (hbv : b ∉ vb vy) (hcv : c ∉ vb va) (hdj : ∀ k, k ∈ vb va → k ∉ vb vy) (hx0 : -400 ≤ ex) (hx1 : ex ≤ 400) (hy0 : -1000 ≤ ey) (hy1 : ey ≤ 1000) (HD : Hid (DivC d va vy A Y)) :
    Calls Tryz.prog 196 #[.pointer (some ⟨b, 0, none⟩), .pointer (some ⟨b, 0, none⟩), .pointer (some ⟨c, 0, none⟩)] w fun e w' => e = .returned (.pointer (some ⟨b, 0, none⟩)) ∧ Hid (∃ va', FlF w' b 512 false va' (-3000) 3000 8 ∧ (∀ k, k ∈ vb va' → k ∈ vb va ∨ w.heap.size ≤ k) ∧ Fr (b :: vb va) w w') := by
  obtain ⟨c0, c1, c2, c3, c4, c5, c6⟩ := hx.cs
  obtain ⟨d0, d1, d2, d3, d4, d5, d6⟩ := hy.cs
  have f4 := hx.bk.free 4
  have h1 := (hx.drewN 1).setNeg false
  have hf : Fr [b] w ((w.drewN 1).setCell ⟨b, 4, none⟩ (.bool false)) := ((Fr.refl [b] w).drewN 1).set _ _ (by simp)
  have h2 := hy.fr hf (by simp; exact fun e => hbc e.symm) (fun k hk hm => by simp at hm; subst hm; exact hbv hk)
  have HU : Hid (Calls Tryz.prog 235 #[.pointer (some ⟨b, 0, none⟩), .pointer (some ⟨b, 0, none⟩), .pointer (some ⟨c, 0, none⟩)] (w.drew.setCell ⟨b, 4, none⟩ (.bool false)) fun e w' => e = .returned (.tuple #[]) ∧ Hid (∃ va', FlF w' b 512 false va' (-3000) 3000 8 ∧ (∀ k, k ∈ vb va' → k ∈ vb va ∨ (w.drew.setCell ⟨b, 4, none⟩ (.bool false)).heap.size ≤ k) ∧ Fr (b :: vb va) (w.drew.setCell ⟨b, 4, none⟩ (.bool false)) w')) := uquo_any h1 h2 hA1 hY1 hd hbc hbv hcv hdj hx0 hx1 hy0 hy1 HD
  have k3 : (w.drew.setCell ⟨b, 4, none⟩ (.bool false)).cell? ⟨b, 3, none⟩ = some (.int .u8 1) := h1.cs.c3
  have k3' : (w.drew.setCell ⟨b, 4, none⟩ (.bool false)).cell? ⟨c, 3, none⟩ = some (.int .u8 1) := h2.cs.c3
  have HF := Lib.hid hf
  clear hx hy h1 h2 hf c1 c2 c5 c6 d0 d1 d2 d5 d6 HD hdj hbv hcv
  go_enter Tryz.func196, Tryz.ntmps196
  go_upto_region 3 with fail
  go_still_tail 12, (by kernel_rfl)
  change wpList _ _ _ _ _ w.drew
  go_wp2_with (go_at_call 235; refine HU.out.mono ?_; rintro e w1 ⟨rfl, h1⟩)
  go_ret
  obtain ⟨va', q1, q2, q3⟩ := h1.out
  have hf2 : Fr [b] w (w.drew.setCell ⟨b, 4, none⟩ (.bool false)) := HF.out
  refine ⟨rfl, va', q1, fun k hk => ?_, (hf2.mono (by simp)).trans q3 (fun x hx => .inl hx)⟩
  rcases q2 k hk with h | h
  · exact .inl h
  · exact .inr (Nat.le_trans hf2.size h)
end Go.Proofs.YtfbbkngonohlkaaGreatDoor
