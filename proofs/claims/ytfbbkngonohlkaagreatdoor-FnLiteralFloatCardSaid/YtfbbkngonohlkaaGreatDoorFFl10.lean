/- Joined texts: Fl10, Fl11, DivC2, FlMul, FlMul2, Pow5. -/
import Derived.Test.YtfbbkngonohlkaaGreatDoorFFl
import Derived.Test.YtfbbkngonohlkaaGreatDoorFDivL
import Derived.Test.YtfbbkngonohlkaaGreatDoorCmp
import Derived.Test.YtfbbkngonohlkaaGreatDoorMul
import Derived.Test.YtfbbkngonohlkaaGreatDoorSqr
import Derived.Test.YtfbbkngonohlkaaGreatDoorFExp
import Derived.BigQuiet
import Derived.Deep.DeepCutAuto
import Derived.Deep.CutRange
import Derived.Deep.CutBlock
import Derived.Deep.RegionWith
import Derived.StillTailTactics
/- Float.uquo of a number by a number, into the first; what it divides, handed in. -/
namespace Go.Proofs.YtfbbkngonohlkaaGreatDoor
open Go Go.RowKit
set_option linter.unusedVariables false
set_option linter.unusedSimpArgs false
/-- What a division leaves: a quotient that is not zero. -/
structure DivR (B : Nat) (u w' : World) (sb : Nat) (va q : Value) (nq : Nat) : Prop where
  ex : ∃ l, l.length = nq ∧ NatV w' q l ∧ Nrm l
  n0 : 0 < nq
  n1 : nq ≤ 30
  fr : Fr (sb :: vb va) u w'
  inn : ∀ k, k ∈ vb q → k ∈ vb va ∨ u.heap.size ≤ k
  st : StQ B w' sb q
  cap : capOf q ≤ 9223372036854775807
def DivC (d : Nat) (va vy : Value) (A Y : List Int) : Prop := ∀ u xv sb B, NatV u xv (List.replicate d 0 ++ A) → NatV u va A → NatV u vy Y → (∀ k, k ∈ vb xv → k ∉ vb va) → Bk u sb 240 [.pointer none] → u.cell? ⟨11, 0, none⟩ = some (.int .i64 40) → B ≤ sb → B ≤ u.heap.size → (∀ k, k ∈ vb va → k < B) → sb ∉ vb xv → sb ∉ vb vy → Calls Tryz.prog 132 #[va, .pointer (some ⟨sb, 0, none⟩), .slice none 0 0, xv, vy] u fun e w' => ∃ aq nq cq ar nr cr, e = .returned (.tuple #[.slice aq nq cq, .slice ar nr cr]) ∧ Hid (DivR B u w' sb va (.slice aq nq cq) nq)
/-- Behind the laying out of the dividend. -/
structure UqA (w wx : World) (b c : Nat) (p2 : Nat) (acc acc2 ex ey : Int) (neg neg2 : Bool) (va vy xv : Value) (A Y X : List Int) : Prop where
  fb : FlB wx b 512 acc 1 neg va ex A
  fc : FlB wx c p2 acc2 1 neg2 vy ey Y
  xn : NatV wx xv X
  fr : Fr [] w wx
  xa : ∀ k, k ∈ vb xv → w.heap.size ≤ k
/-- Behind the division. -/
structure UqB (w wx : World) (b c sb : Nat) (p2 : Nat) (acc acc2 ex ey : Int) (neg neg2 : Bool) (va vy q : Value) (Y : List Int) (nq : Nat) : Prop where
  fb : ∃ l, l.length = nq ∧ FlB wx b 512 acc 1 neg q ex l ∧ Nrm l
  fc : FlB wx c p2 acc2 1 neg2 vy ey Y
  n0 : 0 < nq
  n1 : nq ≤ 30
  fr : Fr (b :: vb va) w wx
  inn : ∀ k, k ∈ vb q → k ∈ vb va ∨ w.heap.size ≤ k
  st : StQ w.heap.size wx sb q
theorem UqB.drewN {w wx : World} {b c sb p2 : Nat} {acc acc2 ex ey : Int} {neg neg2 : Bool} {va vy q : Value} {Y : List Int} {nq : Nat} (h : UqB w wx b c sb p2 acc acc2 ex ey neg neg2 va vy q Y nq) (k : Nat) : UqB w (wx.drewN k) b c sb p2 acc acc2 ex ey neg neg2 va vy q Y nq := by
  obtain ⟨⟨l, l1, l2, l3⟩, h2, h3, h4, h5, h6, h7⟩ := h
  exact ⟨⟨l, l1, l2.drewN k, l3⟩, h2.drewN k, h3, h4, h5.drewN k, h6, h7.fr ((Fr.refl [] wx).drewN k) (by simp)⟩
set_option maxRecDepth 1000000 in
set_option maxHeartbeats 2000000 in
theorem uquo_any {w : World} {b c p2 d : Nat} {acc acc2 ex ey : Int} {neg neg2 : Bool} {va vy : Value} {A Y : List Int} (hx : FlB w b 512 acc 1 neg va ex A) (hy : FlB w c p2 acc2 1 neg2 vy ey Y) (hA1 : A.length = 1) (hY1 : Y.length ≤ 20) (hd : d = 8 + Y.length)
    (hbc : b ≠ c) (hbv : b ∉ vb vy) (hcv : c ∉ vb va) (hdj : ∀ k, k ∈ vb va → k ∉ vb vy) (hx0 : -400 ≤ ex) (hx1 : ex ≤ 400) (hy0 : -1000 ≤ ey) (hy1 : ey ≤ 1300) (HD : Hid (DivC d va vy A Y)) (hg11 : ∀ u, Fr [b] w u → u.cell? ⟨11, 0, none⟩ = some (.int .i64 40)) :
    Calls Tryz.prog 235 #[.pointer (some ⟨b, 0, none⟩), .pointer (some ⟨b, 0, none⟩), .pointer (some ⟨c, 0, none⟩)] w fun e w' => e = .returned (.tuple #[]) ∧ Hid (∃ va', FlF w' b 512 neg va' (-3000) 3000 8 ∧ (∀ k, k ∈ vb va' → k ∈ vb va ∨ w.heap.size ≤ k) ∧ Fr (b :: vb va) w w') := by
  have cx := hx.cs
  have cy := hy.cs
  obtain ⟨mb, hat⟩ := hx.av.at (by omega)
  obtain ⟨tA, J, hva, hrow, hws⟩ := hat
  rw [hA1] at hva
  obtain ⟨aY, cY, hvy, hcY⟩ := hy.av.form
  obtain ⟨cap, hcap⟩ : ∃ cap, cap = 1 + J.length := ⟨_, rfl⟩
  rw [← hcap] at hva
  subst hva
  subst hvy
  obtain ⟨L, hL⟩ : ∃ L, L = Y.length := ⟨_, rfl⟩
  rw [← hL] at cy hd hcY HD hbv hdj hy
  have e1 : ∀ k, (w.drewN k).cell? ⟨b, 5, none⟩ = some (.slice (some ⟨mb, 0, none⟩) 1 cap) := fun k => cx.c5
  have e2 : ∀ k, (w.drewN k).cell? ⟨c, 5, none⟩ = some (.slice aY L cY) := fun k => cy.c5
  have g0 := cx.c0
  have g5 := cx.c5
  have h5 := cy.c5
  have e3 : IntKind.i64.wrap (8 + (L : Int)) = (d : Int) := by rw [IntWalk.i64_in _ (by omega)]; omega
  have e4 : decide ((d : Int) > 0) = true := decide_eq_true (by omega)
  have e5 : (0 : Int) < (d : Int) := by omega
  have e4b : decide ((0 : Int) < (d : Int)) = true := decide_eq_true (by omega)
  have e4c : decide (0 < d) = true := decide_eq_true (by omega)
  obtain ⟨N, hN⟩ : ∃ N : Nat, N = 1 + d := ⟨_, rfl⟩
  have e6 : IntKind.i64.wrap (1 + (d : Int)) = (N : Int) := by rw [IntWalk.i64_in _ (by omega)]; omega
  obtain ⟨D9, hD9⟩ : ∃ D : Nat, D = N - L := ⟨_, rfl⟩
  have e7 : IntKind.i64.wrap ((N : Int) - (L : Int)) = (D9 : Int) := by rw [IntWalk.i64_in _ (by omega)]; omega
  have hmk := fun u => run_mk (n := N) (c := N) (Nat.le_refl _) (by omega) u N N rfl rfl
  have e8 : N - d = 1 := by omega
  have e9 : (d : Int) ≤ (N : Int) := by omega
  have e10 : (d : Int) < (N : Int) := by omega
  have e11 : d < N := by omega
  have e12 : ¬ (d = N) := by omega
  have hcpw : ∀ (u : World) (ty : TypeId), Fr [] w u → (Builtin.copy_ #[108, 108] ty #[.slice (some ⟨u.heap.size, d, none⟩) 1 1, .slice (some ⟨mb, 0, none⟩) 1 cap]).run Tryz.prog (u.alloc (.cells (zrow N) 162)).drew = .ok (.int .i64 1) ((u.alloc (.cells (zrow N) 162)).drew.setCells u.heap.size d (cells (seg (A ++ J) 0 1))) := fun u ty hu => by
    exact run_copyW (n := 1) _ Tryz.underlying108 (D := List.replicate N 0) (t := 162) (Bk.newA u 162 (zrow N)).drew ((hu.alloc _).bk hrow (by simp)).drew rfl (by simp; omega) (by simp; omega)
  have HA1 := Lib.hid hA1
  have HUA : Hid (∀ u, Fr [] w u → UqA w ((u.alloc (.cells (zrow N) 162)).drew.setCells u.heap.size d (cells (seg (A ++ J) 0 1))) b c p2 acc acc2 ex ey neg neg2 (.slice (some ⟨mb, 0, none⟩) 1 cap) (.slice aY L cY) (.slice (some ⟨u.heap.size, 0, none⟩) N N) A Y (List.replicate d 0 ++ A)) := fun u hu => by
    have hn : Bk (u.alloc (.cells (zrow N) 162)).drew u.heap.size 162 (cells (List.replicate N 0)) := (Bk.newA u 162 (zrow N)).drew
    have hsg : seg (A ++ J) 0 1 = A := by
      unfold seg
      rw [List.drop_zero, List.take_append_of_le_length (by omega), List.take_of_length_le (by omega)]
    rw [hsg]
    have h1 := Bk.setCells A d (List.replicate N 0) _ hn (by simp; omega)
    have hsz := hu.size
    have hf0 : Fr [] w (u.alloc (.cells (zrow N) 162)).drew := (hu.alloc _).drew
    have hf : Fr [] w ((u.alloc (.cells (zrow N) 162)).drew.setCells u.heap.size d (cells A)) := Fr.setCells _ _ _ hf0 (.inr hsz)
    have hsp : splice (List.replicate N 0) d A = (List.replicate d 0 ++ A) ++ [] := by
      unfold splice
      rw [List.take_replicate, List.drop_replicate, Nat.min_eq_left (by omega), show N - (d + A.length) = 0 by omega]
      simp
    rw [hsp] at h1
    have hlen : (List.replicate d (0 : Int) ++ A).length = N := by simp; omega
    refine ⟨hx.fr hf (by simp) (by simp), ?_, .inr ⟨u.heap.size, 162, [], by rw [hlen]; rfl, h1, (Ws.replicate d).append hws⟩, hf, fun k hk => by simp [vb] at hk; omega⟩
    exact hy.fr hf (by simp) (by simp)
  have HST := fun u : World => Lib.hid (getStack_any (w := u))
  have HG11 := Lib.hid hg11
  have HD9 : Hid (D9 = 9) := by unfold Hid; omega
  have HMB : Hid (mb < w.heap.size) := hrow.lt
  have HB := Lib.hid (And.intro hx.bk.lt (And.intro hbc (And.intro hbv (And.intro hcv hdj))))
  clear hx hy hrow hws cx cy hA1 hd hN hD9 hL hcap hbc hbv hcv hdj hg11
  go_enter_defers Tryz.func235, Tryz.ntmps235
  go_upto_region 2 with fail
  go_quiet (fail)
  go_upto_if 39 with fail
  have HW1 : Hid (Fr [] w (w.drewN nq)) := (Fr.refl [] w).drewN nq
  have e2' := e2 nq
  have e1' := e1 nq
  generalize w.drewN nq = W1 at *
  go_cut [7] from 40 to 55 (fun xv wx => ∃ a, xv = .slice a N N ∧ Hid (UqA w wx b c p2 acc acc2 ex ey neg neg2 (.slice (some ⟨mb, 0, none⟩) 1 cap) (.slice aY L cY) (.slice a N N) A Y (List.replicate d 0 ++ A)))
  case first =>
    have e1a : (W1.alloc (.cells (zrow N) 162)).cell? ⟨b, 5, none⟩ = some (.slice (some ⟨mb, 0, none⟩) 1 cap) := by
      rw [((Fr.refl [] W1).alloc _).cell (p := ⟨b, 5, none⟩) (by have := HB.out.1; have := HW1.out.size; show b < _; omega) (by simp)]; exact e1'
    have hcp := fun ty => hcpw W1 ty HW1.out
    have hbl : b < W1.heap.size := by have := HB.out.1; have := HW1.out.size; omega
    have hbn : ¬ (b = W1.heap.size) := by omega
    have hbn2 : ¬ (W1.heap.size = b) := by omega
    have HU1 := Lib.hid (HUA.out W1 HW1.out)
    clear hcpw HUA e1 e2 e2' g0 g5 h5
    go_upto_region 5 with fail
    clear hmk
    generalize hW2 : W1.alloc (.cells (zrow N) 162) = W2 at *
    clear hW2
    go_still_tail 7, (by kernel_rfl)
    change wpList _ _ _ _ _ W2.drew
    go_wp2_with fail
    go_meet
    case rel => exact ⟨_, rfl, HU1.out⟩
  case rest =>
    obtain ⟨ax, rfl, hU⟩ := hcut
    clear hcpw HUA e1 e2 e1' e2' g0 g5 h5 hmk
    generalize wc = W5 at *
    have h5 : W5.cell? ⟨c, 5, none⟩ = some (.slice aY L cY) := hU.out.fc.cs.c5
    have HU6 : Hid (UqA w (W5.alloc (.cells #[.pointer none] 240)) b c p2 acc acc2 ex ey neg neg2 (.slice (some ⟨mb, 0, none⟩) 1 cap) (.slice aY L cY) (.slice ax N N) A Y (List.replicate d 0 ++ A)) := by
      obtain ⟨q1, q2, q3, q4, q5⟩ := hU.out
      have hf : Fr [] W5 (W5.alloc (.cells #[.pointer none] 240)) := (Fr.refl [] W5).alloc _
      exact ⟨q1.fr hf (by simp) (by simp), q2.fr hf (by simp) (by simp), q3.fr hf (by simp), q4.trans hf (by simp), q5⟩
    have HST6 : Hid (Bk (W5.alloc (.cells #[.pointer none] 240)) W5.heap.size 240 [.pointer none]) := Bk.new W5 240 _
    have HSZ : Hid (w.heap.size ≤ W5.heap.size) := hU.out.fr.size
    go_upto_region 10 with (go_at_call 106; refine (HST W5).out.mono ?_; rintro e w1 ⟨rfl, rfl⟩)
    generalize hW5 : W5.heap.size = sb at *
    generalize W5.alloc (.cells #[.pointer none] 240) = W6 at *
    have HSX : Hid (sb ∉ vb (.slice ax N N)) := by rw [← hW5]; exact fun hm => Nat.lt_irrefl _ (hU.out.xn.lt _ hm)
    have HSY : Hid (sb ∉ vb (.slice aY L cY)) := by rw [← hW5]; exact fun hm => Nat.lt_irrefl _ (hU.out.fc.av.lt _ hm)
    have HSC : Hid (sb ≠ c) := by rw [← hW5]; have := hU.out.fc.bk.lt; exact fun e => by omega
    clear hW5 h5
    have x5 : W6.cell? ⟨b, 5, none⟩ = some (.slice (some ⟨mb, 0, none⟩) 1 cap) := HU6.out.fb.cs.c5
    have y5 : W6.cell? ⟨c, 5, none⟩ = some (.slice aY L cY) := HU6.out.fc.cs.c5
    have HDV : Hid (Calls Tryz.prog 132 #[.slice (some ⟨mb, 0, none⟩) 1 cap, .pointer (some ⟨sb, 0, none⟩), .slice none 0 0, .slice ax N N, .slice aY L cY] W6.drew fun e w' => ∃ aq nq cq ar nr cr, e = .returned (.tuple #[.slice aq nq cq, .slice ar nr cr]) ∧ w'.cell? ⟨b, 5, none⟩ = some (.slice (some ⟨mb, 0, none⟩) 1 cap) ∧ w'.frozen? ⟨b, 5, none⟩ = false ∧ Hid (UqB w (w'.setCell ⟨b, 5, none⟩ (.slice aq nq cq)) b c sb p2 acc acc2 ex ey neg neg2 (.slice (some ⟨mb, 0, none⟩) 1 cap) (.slice aY L cY) (.slice aq nq cq) Y nq)) := by
      obtain ⟨q1, q2, q3, q4, q5⟩ := HU6.out
      obtain ⟨r1, r2, r3, r4, r5⟩ := HB.out
      have hmb := q1.av.lt mb (by simp [vb])
      have hmbw : mb < w.heap.size := HMB.out
      refine (HD.out W6.drew _ _ _ (q3.fr ((Fr.refl [] W6).drew) (by simp)) (q1.av.fr ((Fr.refl [] W6).drew) (by simp)) (q2.av.fr ((Fr.refl [] W6).drew) (by simp)) (fun k hk hk2 => by have := q5 k hk; simp [vb] at hk2; omega) (HST6.out.drewN 1) (HG11.out _ ((q4.drewN 1).mono (by simp))) HSZ.out q4.size (fun k hk => by simp [vb] at hk; omega) HSX.out HSY.out).mono ?_
      rintro e w' ⟨aq, nq, cq, ar, nr, cr, rfl, hh⟩
      obtain ⟨⟨l, l1, l2, l3⟩, n0, n1, f, i1, hst, cp⟩ := hh.out
      have hss := HSZ.out
      have hbm : b ∉ vb (.slice (some ⟨mb, 0, none⟩) 1 cap) := q1.ap
      have hbs : b ∉ sb :: vb (.slice (some ⟨mb, 0, none⟩) 1 cap) := fun hm => by
        rcases List.mem_cons.1 hm with h | h
        · omega
        · exact hbm h
      have hb := f.bk (q1.bk.drew) hbs
      have hsz : w.heap.size ≤ W6.heap.size := q4.size
      have hapq : b ∉ vb (.slice aq nq cq) := fun hk => by
        rcases i1 b hk with h | h
        · exact hbm h
        · have : W6.heap.size ≤ b := h
          omega
      have hf1 : Fr (sb :: vb (.slice (some ⟨mb, 0, none⟩) 1 cap)) W6 w' := ((Fr.refl _ W6).drew).trans f (fun x hx => .inl hx)
      have hf2 : Fr (b :: sb :: vb (.slice (some ⟨mb, 0, none⟩) 1 cap)) W6 (w'.setCell ⟨b, 5, none⟩ (.slice aq nq cq)) := (hf1.mono (fun x hx => .inl (List.mem_cons_of_mem _ hx))).set _ _ (by simp)
      refine ⟨aq, nq, cq, ar, nr, cr, rfl, by rw [hb.cell]; rfl, hb.free 5, Lib.hid ⟨⟨l, l1, FlB.setMant (A := A) hb l2 hapq cp, l3⟩, ?_, n0, n1, (q4.mono (by simp)).trans hf2 (fun x hx => ?_), fun k hk => ?_, hst.fr ((Fr.refl [b] w').set _ _ (by simp)) (fun x hx => .inl (by simp at hx; omega))⟩⟩
      · refine q2.fr hf2 ?_ ?_
        · intro hm
          rcases List.mem_cons.1 hm with h | h
          · exact r2 h.symm
          · rcases List.mem_cons.1 h with h | h
            · exact HSC.out h.symm
            · exact r4 h
        · intro k hk hm
          rcases List.mem_cons.1 hm with h | h
          · exact r3 (h ▸ hk)
          · rcases List.mem_cons.1 h with h | h
            · exact HSY.out (h ▸ hk)
            · exact r5 k h hk
      · rcases List.mem_cons.1 hx with h | h
        · exact .inl (by simp [h])
        · rcases List.mem_cons.1 h with h | h
          · exact .inr (by omega)
          · exact .inl (List.mem_cons_of_mem _ h)
      · rcases i1 k hk with h | h
        · exact .inl h
        · exact .inr (Nat.le_trans hsz h)
    clear HU6 HST HST6 hU HD
    go_cut [11] from 66 to 82 (fun rv wx => ∃ aq nq cq ar nr cr, rv = .slice ar nr cr ∧ Hid (UqB w wx b c sb p2 acc acc2 ex ey neg neg2 (.slice (some ⟨mb, 0, none⟩) 1 cap) (.slice aY L cY) (.slice aq nq cq) Y nq))
    case first =>
      refine wp_region_noPanic ?_
      go_region_with (go_at_call 132; refine HDV.out.mono ?_; rintro e w6 ⟨aq, nq, cq, ar, nr, cr, rfl, k1, k2, hq⟩)
      all_goals (refine NoPanic.normal ?_)
      all_goals
        go_wp2_with fail
        go_meet
        case rel => exact ⟨aq, nq, cq, ar, nr, cr, rfl, hq⟩
    case rest =>
      obtain ⟨aq, n7, cq, ar, nr, cr, rfl, hQ⟩ := hcut
      generalize wc = W7 at *
      have z1 : ∀ k, (W7.drewN k).cell? ⟨b, 6, none⟩ = some (.int .i32 ex) := fun k => by
        obtain ⟨l, l1, l2, l3⟩ := (hQ.out.drewN k).fb
        exact l2.cs.c6
      have z2 : ∀ k, (W7.drewN k).cell? ⟨c, 6, none⟩ = some (.int .i32 ey) := fun k => (hQ.out.drewN k).fc.cs.c6
      have z3 : ∀ k, (W7.drewN k).cell? ⟨b, 5, none⟩ = some (.slice aq n7 cq) := fun k => by
        obtain ⟨l, l1, l2, l3⟩ := (hQ.out.drewN k).fb
        exact l2.cs.c5
      have z1a := z1 0
      have z2a := z2 0
      have z3a := z3 0
      have hn0 := hQ.out.n0
      have hn1 := hQ.out.n1
      obtain ⟨E1, hE1⟩ : ∃ E : Int, E = ex - ey := ⟨_, rfl⟩
      obtain ⟨DQ, hDQ⟩ : ∃ E : Int, E = (D9 : Int) - (n7 : Int) := ⟨_, rfl⟩
      obtain ⟨D64, hD64⟩ : ∃ E : Int, E = DQ * 64 := ⟨_, rfl⟩
      obtain ⟨E2, hE2⟩ : ∃ E : Int, E = E1 - D64 := ⟨_, rfl⟩
      have hd9 := HD9.out
      have f1 : IntKind.i64.wrap ex = ex := IntWalk.i64_in _ (by omega)
      have f2 : IntKind.i64.wrap ey = ey := IntWalk.i64_in _ (by omega)
      have f3 : IntKind.i64.wrap (ex - ey) = E1 := by rw [IntWalk.i64_in _ (by omega)]; omega
      have f4 : IntKind.i64.wrap ((D9 : Int) - (n7 : Int)) = DQ := by rw [IntWalk.i64_in _ (by omega)]; omega
      have f5 : IntKind.i64.wrap (DQ * 64) = D64 := by rw [IntWalk.i64_in _ (by omega)]; omega
      have f6 : IntKind.i64.wrap (E1 - D64) = E2 := by rw [IntWalk.i64_in _ (by omega)]; omega
      have hEb : -2300 ≤ E2 ∧ E2 ≤ 2900 := by omega
      clear hE1 hDQ hD64 hE2 hd9
      go_upto_region 11 with fail
      go_quiet (fail)
      go_upto_region 12 with fail
      have HQ8 := Lib.hid (hQ.out.drewN nq)
      have z38 := z3 nq
      generalize W7.drewN nq = W8 at *
      clear z1 z2 z3 z1a z2a z3a hQ HDV x5 y5
      have HFN : Hid (Calls Tryz.prog 194 #[.slice aq n7 cq] W8 fun e w' => ∃ s : Nat, e = .returned (.int .i64 (s : Int)) ∧ s ≤ 63 ∧ Hid (∃ l', FlB w' b 512 acc 1 neg (.slice aq n7 cq) ex l' ∧ Msb l' ∧ l'.length = n7 ∧ StQ w.heap.size w' sb (.slice aq n7 cq) ∧ Fr (b :: vb (.slice (some ⟨mb, 0, none⟩) 1 cap)) w w')) := by
        obtain ⟨⟨l, l1, l2, l3⟩, p2, p3, p4, p5, p6, p7⟩ := HQ8.out
        obtain ⟨qb, hat⟩ := l2.av.at (by omega)
        have hvb := hat.vb
        refine (fnorm_any hat (by omega) (by omega) l3).mono ?_
        rintro e w' ⟨s, rfl, hs, hh⟩
        obtain ⟨l', q1, q2, q3, q4⟩ := hh.out
        have hbq : b ≠ qb := fun e => l2.ap (by rw [hvb]; simp [e])
        refine ⟨s, rfl, hs, Lib.hid ⟨l', ⟨q4.bk l2.bk (by simp; exact hbq), .inr ⟨qb, q1⟩, l2.ap, l2.cap⟩, q2, by omega, p7.fr q4 (fun x hx => .inr (by simp at hx; rw [hvb]; simp [hx])), p5.trans q4 ?_⟩⟩
        · intro x hx
          simp at hx
          subst hx
          rcases p6 x (by rw [hvb]; simp) with h | h
          · exact .inl (List.mem_cons_of_mem _ h)
          · exact .inr h
      have HSE : Hid (∀ (w9 : World) (s sb' : Nat), s ≤ 63 → sb' ≤ 1 → Hid (∃ l', FlB w9 b 512 acc 1 neg (.slice aq n7 cq) ex l' ∧ Msb l' ∧ l'.length = n7 ∧ StQ w.heap.size w9 sb (.slice aq n7 cq) ∧ Fr (b :: vb (.slice (some ⟨mb, 0, none⟩) 1 cap)) w w9) → Hid (Calls Tryz.prog 261 #[.pointer (some ⟨b, 0, none⟩), .int .i64 (E2 - (s : Int)), .int .u64 (sb' : Int)] w9 fun e w' => e = .returned (.tuple #[]) ∧ Hid (∃ va', FlF w' b 512 neg va' (-3000) 3000 8 ∧ (∀ k, k ∈ vb va' → k ∈ vb (.slice (some ⟨mb, 0, none⟩) 1 cap) ∨ w.heap.size ≤ k) ∧ Fr (b :: vb (.slice (some ⟨mb, 0, none⟩) 1 cap)) w w' ∧ StQ w.heap.size w' sb va'))) := fun w9 s sb' hs hsb hh => by
        obtain ⟨l', q1, q2, q3, q4, q5⟩ := hh.out
        have hin := HQ8.out.inn
        refine (setExp_any (n := 8) (p := 512) q1 (by omega) rfl (by omega) (by omega) q2 hsb (by omega) (by omega)).mono ?_
        rintro e w' ⟨rfl, hr⟩
        obtain ⟨va', r1, r2, r3⟩ := hr.out
        refine ⟨rfl, Lib.hid ⟨va', ?_, fun k hk => hin k (r2 k hk), q5.trans r3 ?_, (q4.fr r3 (fun x hx => ?_)).sub r2⟩⟩
        · obtain ⟨a1, x1, A1, g1, g2, g3, g4, g5⟩ := r1
          exact ⟨a1, x1, A1, g1, g2, g3, by omega, by omega⟩
        · intro x hx
          rcases List.mem_cons.1 hx with h | h
          · exact .inl (by simp [h])
          · rcases hin x h with h | h
            · exact .inl (List.mem_cons_of_mem _ h)
            · exact .inr h
        · rcases List.mem_cons.1 hx with h | h
          · exact .inl (by have := HB.out.1; omega)
          · exact .inr h
      have hsw : ∀ s : Nat, s ≤ 63 → IntKind.i64.wrap (E2 - (s : Int)) = E2 - (s : Int) := fun s hs => IntWalk.i64_in _ (by omega)
      have hnr : ∃ sb' : Nat, sb' ≤ 1 ∧ True := ⟨0, by omega, trivial⟩
      rcases Nat.eq_zero_or_pos nr with rfl | hnr0
      · go_wp2_with (first | (have hh := h9; go_at_call 261; refine (HSE.out w9 s 0 hs9 (by omega) h9).out.mono ?_; rintro e w10 ⟨rfl, h10⟩) | (go_at_call 194; refine HFN.out.mono ?_; rintro e w9 ⟨s, rfl, hs9, h9⟩; have hsw9 := hsw s hs9))
        obtain ⟨va', r1, r2, r3, r4⟩ := h10.out
        have HR := Lib.hid (And.intro r1 (And.intro r2 r3))
        refine leaves_cons (f := 107) (args := #[.pointer (some ⟨sb, 0, none⟩)]) (by simp) (by simp [go_sem]) ?_
        refine (r4.free .returning).mono ?_
        rintro e u' w'' ⟨rfl, rfl, ib, i1, i2, i3⟩
        obtain ⟨g1, g2, g3⟩ := HR.out
        have hbw := HB.out.1
        exact ⟨_, results_none rfl _ _ _, rfl, va', g1.fr i3 (by simp; omega) (fun k hk hm => by simp at hm; exact i2 (hm ▸ hk)), g2, g3.trans i3 (by simp; omega)⟩
      · have hnr1 : decide ((nr : Int) > 0) = true := decide_eq_true (by omega)
        go_wp2_with (first | (have hh := h9; go_at_call 261; refine (HSE.out w9 s 1 hs9 (by omega) h9).out.mono ?_; rintro e w10 ⟨rfl, h10⟩) | (go_at_call 194; refine HFN.out.mono ?_; rintro e w9 ⟨s, rfl, hs9, h9⟩; have hsw9 := hsw s hs9))
        obtain ⟨va', r1, r2, r3, r4⟩ := h10.out
        have HR := Lib.hid (And.intro r1 (And.intro r2 r3))
        refine leaves_cons (f := 107) (args := #[.pointer (some ⟨sb, 0, none⟩)]) (by simp) (by simp [go_sem]) ?_
        refine (r4.free .returning).mono ?_
        rintro e u' w'' ⟨rfl, rfl, ib, i1, i2, i3⟩
        obtain ⟨g1, g2, g3⟩ := HR.out
        have hbw := HB.out.1
        exact ⟨_, results_none rfl _ _ _, rfl, va', g1.fr i3 (by simp; omega) (fun k hk hm => by simp at hm; exact i2 (hm ▸ hk)), g2, g3.trans i3 (by simp; omega)⟩
end Go.Proofs.YtfbbkngonohlkaaGreatDoor
/- Float.Quo of a number by a number, into the first; the division by one word. -/
namespace Go.Proofs.YtfbbkngonohlkaaGreatDoor
open Go Go.RowKit
set_option linter.unusedVariables false
set_option linter.unusedSimpArgs false
theorem divC_one {d : Nat} {va vy : Value} {A Y : List Int} (hA : A.length = 1) (hMA : Msb A) (hwA : Ws A) (hY : Y.length = 1) (hMY : Msb Y) (hwY : Ws Y) (hd1 : 1 ≤ d) (hd : d ≤ 28) (hca : capOf va ≤ 9223372036854775807) : DivC d va vy A Y := by
  intro u xv sb B hx ha hy hap hsb hg11 hBs hBu hBa hsx hsy
  obtain ⟨y, rfl⟩ := List.length_eq_one_iff.1 hY
  obtain ⟨x, rfl⟩ := List.length_eq_one_iff.1 hA
  have hx0 : x ≠ 0 := by
    have := (hMA.nrm hwA) (by simp)
    simpa using this
  have hy0 : y ≠ 0 := by
    have := (hMY.nrm hwY) (by simp)
    simpa using this
  have hxw := hwA x (by simp)
  have hyw := hwY y (by simp)
  have hv : val (List.replicate d 0 ++ [x]) = BB d * x := by rw [val_append, val_replicate, List.length_replicate, val_single, Int.zero_add]
  have hB : BB 1 ≤ BB d := BB_mono hd1
  rw [BB_one] at hB
  have hX : BB d * 1 ≤ BB d * x := Int.mul_le_mul_of_nonneg_left (by omega) (Int.le_of_lt (BB_pos d))
  refine (div_one (s := .pointer (some ⟨sb, 0, none⟩)) ha (NatV.nil u) hx hy (Nrm.snoc hx0) (by simp; omega) hy0 (fun b hb => by simp [vb])).mono ?_
  rintro e w' ⟨q, l, r, rfl, h1, h2, ⟨m, g1, g2, g3, g4, g5⟩, h4, h5, h6, h7, h8⟩
  obtain ⟨aq, cq, rfl, _⟩ := h1.form
  obtain ⟨ar, cr, rfl, _⟩ := g1.form
  rw [hv] at g3
  have hl0 : 0 < l.length := by
    refine Nat.pos_of_ne_zero fun h0 => ?_
    rw [List.length_eq_zero_iff.1 h0] at g3
    simp only [val] at g3
    omega
  have hvl := val_nonneg h1.ws
  have hl1 : l.length ≤ d + 1 := by
    refine len_le_of_val h2 h1.ws ?_
    have h9 : val l * 1 ≤ val l * y := Int.mul_le_mul_of_nonneg_left (by omega) hvl
    have h10 : BB d * x < BB d * 18446744073709551616 := Int.mul_lt_mul_of_pos_left hxw.2 (BB_pos d)
    rw [BB_succ, Int.mul_comm 18446744073709551616]
    omega
  have hf : Fr (vb va) u w' := h4.mono (fun x hx => .inl ((List.mem_append.1 hx).elim id (fun h => by cases h)))
  have hsv : sb ∉ vb va := fun hm => by have := hBa sb hm; omega
  refine ⟨aq, _, cq, ar, _, cr, rfl, ⟨⟨l, rfl, h1, h2⟩, hl0, by omega, hf.mono (fun x hx => .inl (List.mem_cons_of_mem _ hx)), h5, StQ.empty (hf.bk hsb hsv) hBs (fun hm => ?_), h7 hca⟩⟩
  rcases h5 sb hm with h | h
  · exact hsv h
  · have := hsb.lt; omega
set_option maxRecDepth 100000 in
theorem quo_any {w : World} {b c p2 d : Nat} {acc acc2 ex ey : Int} {va vy : Value} {A Y : List Int} (hx : FlB w b 512 acc 1 false va ex A) (hy : FlB w c p2 acc2 1 false vy ey Y) (hA1 : A.length = 1) (hY1 : Y.length ≤ 20) (hd : d = 8 + Y.length)
    (hbc : b ≠ c) (hbv : b ∉ vb vy) (hcv : c ∉ vb va) (hdj : ∀ k, k ∈ vb va → k ∉ vb vy) (hx0 : -400 ≤ ex) (hx1 : ex ≤ 400) (hy0 : -1000 ≤ ey) (hy1 : ey ≤ 1300) (HD : Hid (DivC d va vy A Y)) (hg11 : ∀ u, Fr [b] w u → u.cell? ⟨11, 0, none⟩ = some (.int .i64 40)) :
    Calls Tryz.prog 196 #[.pointer (some ⟨b, 0, none⟩), .pointer (some ⟨b, 0, none⟩), .pointer (some ⟨c, 0, none⟩)] w fun e w' => e = .returned (.pointer (some ⟨b, 0, none⟩)) ∧ Hid (∃ va', FlF w' b 512 false va' (-3000) 3000 8 ∧ (∀ k, k ∈ vb va' → k ∈ vb va ∨ w.heap.size ≤ k) ∧ Fr (b :: vb va) w w') := by
  obtain ⟨c0, c1, c2, c3, c4, c5, c6⟩ := hx.cs
  obtain ⟨d0, d1, d2, d3, d4, d5, d6⟩ := hy.cs
  have f4 := hx.bk.free 4
  have h1 := (hx.drewN 1).setNeg false
  have hf : Fr [b] w ((w.drewN 1).setCell ⟨b, 4, none⟩ (.bool false)) := ((Fr.refl [b] w).drewN 1).set _ _ (by simp)
  have h2 := hy.fr hf (by simp; exact fun e => hbc e.symm) (fun k hk hm => by simp at hm; subst hm; exact hbv hk)
  have HU : Hid (Calls Tryz.prog 235 #[.pointer (some ⟨b, 0, none⟩), .pointer (some ⟨b, 0, none⟩), .pointer (some ⟨c, 0, none⟩)] (w.drew.setCell ⟨b, 4, none⟩ (.bool false)) fun e w' => e = .returned (.tuple #[]) ∧ Hid (∃ va', FlF w' b 512 false va' (-3000) 3000 8 ∧ (∀ k, k ∈ vb va' → k ∈ vb va ∨ (w.drew.setCell ⟨b, 4, none⟩ (.bool false)).heap.size ≤ k) ∧ Fr (b :: vb va) (w.drew.setCell ⟨b, 4, none⟩ (.bool false)) w')) := uquo_any h1 h2 hA1 hY1 hd hbc hbv hcv hdj hx0 hx1 hy0 hy1 HD (fun u hu => hg11 u (hf.trans hu (by simp)))
  have k3 : (w.drew.setCell ⟨b, 4, none⟩ (.bool false)).cell? ⟨b, 3, none⟩ = some (.int .u8 1) := h1.cs.c3
  have k3' : (w.drew.setCell ⟨b, 4, none⟩ (.bool false)).cell? ⟨c, 3, none⟩ = some (.int .u8 1) := h2.cs.c3
  have HF := Lib.hid hf
  clear hx hy h1 h2 hf c1 c2 c5 c6 d0 d1 d2 d5 d6 HD hdj hbv hcv hg11
  go_enter Tryz.func196, Tryz.ntmps196
  go_upto_region 3 with fail
  go_still_tail 12, (by kernel_rfl)
  change wpList _ _ _ _ _ w.drew
  go_wp2_with (go_at_call 235; refine HU.out.mono ?_; rintro e w1 ⟨rfl, h1⟩)
  go_ret
  obtain ⟨va', q1, q2, q3⟩ := h1.out
  have hf2 : Fr [b] w (w.drew.setCell ⟨b, 4, none⟩ (.bool false)) := HF.out
  refine ⟨rfl, va', q1, fun k hk => ?_, (hf2.mono (by simp)).trans q3 (fun x hx => .inl hx)⟩
  rcases q2 k hk with h | h
  · exact .inl h
  · exact .inr (Nat.le_trans hf2.size h)
end Go.Proofs.YtfbbkngonohlkaaGreatDoor
/- nat.div by a number of several words whose top bit is set. -/
namespace Go.Proofs.YtfbbkngonohlkaaGreatDoor
open Go Go.RowKit
set_option linter.unusedVariables false
set_option linter.unusedSimpArgs false
set_option maxRecDepth 100000 in
set_option maxHeartbeats 1000000 in
theorem divC_more {d n : Nat} {va vy : Value} {A Y : List Int} (hA : A.length = 1) (hMA : Msb A) (hwA : Ws A) (hY : Y.length = n) (hn : 2 ≤ n) (hn2 : n ≤ 19) (hMY : Msb Y) (hwY : Ws Y) (hd : d = 8 + n) (hca : capOf va ≤ 9223372036854775807) : DivC d va vy A Y := by
  intro w xv sb B hx ha hy hap hsb hg11 hBs hBu hBa hsx hsy
  obtain ⟨x, rfl⟩ := List.length_eq_one_iff.1 hA
  have hx0 : x ≠ 0 := by
    have := (hMA.nrm hwA) (by simp)
    simpa using this
  have hxw := hwA x (by simp)
  have hv : val (List.replicate d 0 ++ [x]) = BB d * x := by rw [val_append, val_replicate, List.length_replicate, val_single, Int.zero_add]
  have hlt : val Y < val (List.replicate d 0 ++ [x]) := by
    have h1 := val_lt hwY
    have h2 := BB_mono (show n ≤ d by omega)
    have h3 : BB d * 1 ≤ BB d * x := Int.mul_le_mul_of_nonneg_left (by omega) (Int.le_of_lt (BB_pos d))
    rw [hv]
    rw [hY] at h1
    omega
  have hXl : (List.replicate d (0 : Int) ++ [x]).length = d + 1 := by simp
  have hnX : Nrm (List.replicate d (0 : Int) ++ [x]) := Nrm.snoc hx0
  have hsv : sb ∉ vb va := fun hm => by have := hBa sb hm; omega
  have HC : Hid (Calls Tryz.prog 176 #[xv, vy] w fun e w' => ∃ k, e = .returned (.int .i64 1) ∧ w' = w.drewN k) := by
    refine (cmp_any hx hy hnX (hMY.nrm hwY) (by omega) (by omega) (by omega)).mono ?_
    rintro e w' ⟨t, rfl, ht, k, hk⟩
    refine ⟨k, ?_, hk⟩
    rcases ht with ⟨_, h⟩ | ⟨_, h⟩ | ⟨h, _⟩
    · omega
    · omega
    · rw [h]
  have HLG : Hid (∀ k, Calls Tryz.prog 188 #[va, .pointer (some ⟨sb, 0, none⟩), .slice none 0 0, xv, vy] (w.drewN k) fun e w' => ∃ aq nq cq ar nr cr, e = .returned (.tuple #[.slice aq nq cq, .slice ar nr cr]) ∧ Hid (DivR B w w' sb va (.slice aq nq cq) nq)) := fun k => by
    have hf : Fr [] w (w.drewN k) := (Fr.refl [] w).drewN k
    have hs11 : sb ≠ 11 := fun e => by
      subst e
      rw [hsb.cell] at hg11
      cases hg11
    refine (divLarge_any (d := 0) (hx.fr hf (by simp)) (ha.fr hf (by simp)) hca (hy.fr hf (by simp)) (hsb.drewN k) (by rw [hf.cell (p := ⟨11, 0, none⟩) (cell_lt hg11) (by simp)]; exact hg11) hsv hsx hsy hs11 hY hn hn2 hMY (by omega) (by omega) (by omega)).mono ?_
    rintro e w' ⟨aq, nq, cq, ar, nr, cr, rfl, hh⟩
    obtain ⟨h1, h2, h3, h4, h5, h6, h7⟩ := hh.out
    have hsz : (w.drewN k).heap.size = w.heap.size := rfl
    refine ⟨aq, nq, cq, ar, nr, cr, rfl, Lib.hid ⟨h1, h2, by omega, (hf.mono (by simp)).trans h4 (fun x hx => .inl hx), fun k hk => h5 k hk, ⟨fun hm => ?_, hBs, ?_⟩, h6⟩⟩
    · rcases h5 sb hm with h | h
      · exact hsv h
      · have := hsb.lt
        omega
    · rcases h7 with h | ⟨ib, g, l, cap, g1, g2, g3⟩
      · exact .inl h
      · exact .inr ⟨ib, g, l, cap, g1, by omega, g3⟩
  obtain ⟨ax, cx, rfl, _⟩ := hx.form
  obtain ⟨ay, cy, rfl, _⟩ := hy.form
  obtain ⟨aa, ca, rfl, _⟩ := ha.form
  rw [hXl] at HC HLG ⊢
  rw [hY] at HC HLG ⊢
  have z1 : ((n : Int) == 0) = false := beq_eq_false_iff_ne.2 (by omega)
  have z2 : ((n : Int) == 1) = false := beq_eq_false_iff_ne.2 (by omega)
  clear hx ha hy hap hsb hg11 hBs hBu hBa hsx hsy hv hlt hXl hnX hsv hY hd hca hA hMA hwA hMY hwY hx0
  go_enter_defers Tryz.func132, Tryz.ntmps132
  go_wp2_with (first | (go_at_call 188; refine (HLG.out _).mono ?_; rintro e w2 ⟨aq, nq, cq, ar, nr, cr, rfl, h2⟩) | (go_at_call 176; refine HC.out.mono ?_; rintro e w1 ⟨k, rfl, rfl⟩))
  exact ⟨_, results_tmp2 rfl _ _ _, aq, nq, cq, ar, nr, cr, rfl, h2⟩
end Go.Proofs.YtfbbkngonohlkaaGreatDoor
/- Float.umul and Float.Mul: into the first factor. -/
namespace Go.Proofs.YtfbbkngonohlkaaGreatDoor
open Go Go.RowKit
set_option linter.unusedVariables false
set_option linter.unusedSimpArgs false
theorem lt_cell {w : World} {p : Addr} {v : Value} (h : w.cell? p = some v) : p.block < w.heap.size := by
  rcases Nat.lt_or_ge p.block w.heap.size with h1 | h1
  · exact h1
  · exfalso
    unfold World.cell? at h
    rw [Array.getElem?_eq_none h1] at h
    cases h
theorem mul_msb {X Y l : List Int} (hX : Msb X) (hY : Msb Y) (wX : Ws X) (wY : Ws Y) (hl : Nrm l) (wl : Ws l) (hv : val l = val X * val Y) : l.length = X.length + Y.length ∧ BB (X.length + Y.length) ≤ 4 * val l := by
  obtain ⟨x0, x1⟩ := hX
  obtain ⟨y0, y1⟩ := hY
  have bx := BB_pos X.length
  have b_y := BB_pos Y.length
  have ux := val_lt wX
  have uy := val_lt wY
  have nx := val_nonneg wX
  have ny := val_nonneg wY
  have e1 : BB X.length * BB Y.length ≤ (2 * val X) * (2 * val Y) := Int.mul_le_mul x1 y1 (by omega) (by omega)
  have e2 : (2 * val X) * (2 * val Y) = 4 * (val X * val Y) := by grind
  have e3 : BB (X.length + Y.length) ≤ 4 * val l := by rw [BB_add, hv]; omega
  have e4 : val l < BB (X.length + Y.length) := by
    rw [hv, BB_add]
    have h1 : val X * val Y ≤ val X * BB Y.length := Int.mul_le_mul_of_nonneg_left (by omega) nx
    have h2 : val X * BB Y.length < BB X.length * BB Y.length := Int.mul_lt_mul_of_pos_right ux b_y
    omega
  have e5 := len_le_of_val hl wl e4
  obtain ⟨k, hk⟩ : ∃ k, X.length + Y.length = k + 1 := ⟨X.length + Y.length - 1, by omega⟩
  have e6 : k < l.length := by
    refine len_gt_of_val wl ?_
    rw [hk, BB_succ] at e3
    have := BB_pos k
    omega
  exact ⟨by omega, e3⟩
theorem mul_shift {N s : Nat} {a b : Int} (h : BB N ≤ 4 * a) (hb : b < BB N) (e : b = a * 2 ^ s) : s ≤ 1 := by
  rcases (show s ≤ 1 ∨ 2 ≤ s by omega) with h1 | h1
  · exact h1
  · exfalso
    have hp := BB_pos N
    obtain ⟨t, rfl⟩ : ∃ t, s = t + 2 := ⟨s - 2, by omega⟩
    rw [Int.pow_add] at e
    have h2 : (0 : Int) < 2 ^ t := Int.pow_pos (by decide)
    have h3 : a * 4 * 1 ≤ a * 4 * 2 ^ t := Int.mul_le_mul_of_nonneg_left (by omega) (by omega)
    have h4 : a * (2 ^ t * 2 ^ 2) = a * 4 * 2 ^ t := by grind
    omega
/-- The product of the mantissas laid. -/
structure Um (w wx : World) (b p : Nat) (acc ex : Int) (vx v : Value) (N : Nat) (m : Nat) : Prop where
  ex : ∃ l, l.length = m ∧ FlB wx b p acc 1 false v ex l ∧ Nrm l ∧ BB N ≤ 4 * val l
  len : m = N
  n0 : 0 < N
  n1 : N ≤ 20
  fr : Fr (b :: vb vx) w wx
  inn : ∀ k, k ∈ vb v → k ∈ vb vx ∨ w.heap.size ≤ k
theorem Um.norm {w wx : World} {b p N m c : Nat} {acc ex : Int} {vx : Value} {a : Option Addr} (h : Um w wx b p acc ex vx (.slice a m c) N m) :
    Calls Tryz.prog 194 #[.slice a m c] wx fun e w' => ∃ s : Nat, e = .returned (.int .i64 (s : Int)) ∧ s ≤ 1 ∧ Hid (∃ l, FlB w' b p acc 1 false (.slice a m c) ex l ∧ Msb l ∧ l.length = N ∧ Fr (b :: vb vx) w w') := by
  obtain ⟨⟨l, l1, l2, l3, l4⟩, hm, h0, h1, hf, hi⟩ := h
  obtain ⟨qb, hat⟩ := l2.av.at (by omega)
  have hvb := hat.vb
  refine (fnorm_val hat (by omega) (by omega) l3).mono ?_
  rintro e w' ⟨s, rfl, hs, hh⟩
  obtain ⟨l', q1, q2, q3, q4, q5⟩ := hh.out
  have hw' : Ws l' := q1.v.ws
  have hlt := val_lt hw'
  rw [q3, l1, hm] at hlt
  have hbq : b ≠ qb := fun e => l2.ap (by rw [hvb]; simp [e])
  refine ⟨s, rfl, mul_shift l4 hlt q5, Lib.hid ⟨l', ⟨q4.bk l2.bk (by simp; exact hbq), q1.v, l2.ap, l2.cap⟩, q2, by omega, hf.trans q4 ?_⟩⟩
  intro x hx
  simp at hx
  subst hx
  rcases hi x (by rw [hvb]; simp) with h | h
  · exact .inl (List.mem_cons_of_mem _ h)
  · exact .inr h
theorem info166s : ∃ j, Tryz.prog.info? 166 = some j ∧ j.size ≠ 0 := by
  have h : (Tryz.prog.info? 166).map (fun i => decide (i.size ≠ 0)) = some true := by kernel_rfl
  cases hq : Tryz.prog.info? 166 with
  | none => rw [hq] at h; cases h
  | some j => rw [hq] at h; simp at h; exact ⟨j, rfl, h⟩
theorem eql114_ne {w : World} {b c : Nat} {C D : List Value} (h : b ≠ c) (hb : Bk w b 166 C) (hc : Bk w c 166 D) : (binOp .eql 114 (.pointer (some ⟨b, 0, none⟩)) (.pointer (some ⟨c, 0, none⟩))).run Tryz.prog w = .ok (.bool false) w := by
  obtain ⟨j, h1, h2⟩ := info166s
  exact run_eql_ptr_other w Tryz.underlying114 h1 h2 (fun e => h (congrArg Addr.block e)) hb hc
theorem eql114_same (b : Nat) (w : World) : (binOp .eql 114 (.pointer (some ⟨b, 0, none⟩)) (.pointer (some ⟨b, 0, none⟩))).run Tryz.prog w = .ok (.bool true) w := by
  obtain ⟨j, h1, h2⟩ := info166s
  exact run_eql_ptr_same _ _ Tryz.underlying114 h1
set_option maxRecDepth 1000000 in
set_option maxHeartbeats 2000000 in
theorem umul_mul {w : World} {b c p p2 n : Nat} {acc acc2 ex ey : Int} {vx vy : Value} {X Y : List Int} (hx : FlB w b p acc 1 false vx ex X) (hy : FlB w c p2 acc2 1 false vy ey Y) (hX : Msb X) (lX : X.length ≤ 10) (hY : Msb Y) (lY : Y.length ≤ 10) (hbc : b ≠ c) (hbv : b ∉ vb vy) (hdj : ∀ k, k ∈ vb vx → k ∉ vb vy) (hp : p = 64 * n) (hn1 : 1 ≤ n) (hn : n ≤ 1000) (hx0 : -10000 ≤ ex) (hx1 : ex ≤ 10000) (hy0 : -10000 ≤ ey) (hy1 : ey ≤ 10000) (hg5 : w.cell? ⟨5, 0, none⟩ = some (.int .i64 40)) :
    Calls Tryz.prog 237 #[.pointer (some ⟨b, 0, none⟩), .pointer (some ⟨b, 0, none⟩), .pointer (some ⟨c, 0, none⟩)] w fun e w' => e = .returned (.tuple #[]) ∧ Hid (∃ va', FlF w' b p false va' (ex + ey - 1) (ex + ey + 1) n ∧ (∀ k, k ∈ vb va' → k ∈ vb vx ∨ w.heap.size ≤ k) ∧ Fr (b :: vb vx) w w') := by
  have cx := hx.cs
  have cy := hy.cs
  obtain ⟨ax, mx, hvx, hcX⟩ : ∃ a c, vx = .slice a X.length c ∧ X.length ≤ c := hx.av.form
  subst hvx
  obtain ⟨ay, my, hvy, hcY⟩ : ∃ a c, vy = .slice a Y.length c ∧ Y.length ≤ c := hy.av.form
  subst hvy
  have g6 := cx.c6
  have g5 := cx.c5
  have z5 := hx.bk.free 5
  have h6 := cy.c6
  have h5 := cy.c5
  obtain ⟨E1, hE1⟩ : ∃ E : Int, E = ex + ey := ⟨_, rfl⟩
  have f1 : IntKind.i64.wrap ex = ex := IntWalk.i64_in _ (by omega)
  have f2 : IntKind.i64.wrap ey = ey := IntWalk.i64_in _ (by omega)
  have f3 : IntKind.i64.wrap (ex + ey) = E1 := by rw [IntWalk.i64_in _ (by omega)]; omega
  have hEQ := fun k => eql114_ne hbc (hx.bk.drewN k) (hy.bk.drewN k)
  have HM : Hid (∀ k, Calls Tryz.prog 111 #[(.slice ax X.length mx), .pointer none, (.slice ax X.length mx), (.slice ay Y.length my)] (w.drewN k) fun e w' => ∃ a m c, e = .returned (.slice a m c) ∧ w'.cell? ⟨b, 5, none⟩ = some (.slice ax X.length mx) ∧ w'.frozen? ⟨b, 5, none⟩ = false ∧ Hid (Um w (w'.setCell ⟨b, 5, none⟩ (.slice a m c)) b p acc ex (.slice ax X.length mx) (.slice a m c) (X.length + Y.length) m)) := fun k => by
    have hf0 : Fr [] w (w.drewN k) := (Fr.refl [] w).drewN k
    have hxk := hx.drewN k
    have hyk := hy.drewN k
    refine (natMul_any hxk.av hxk.av hyk.av hx.cap hx.cap hy.cap hX.1 hY.1 (.inl (by omega)) (by omega) (by omega) (by rw [hf0.cell (p := ⟨5, 0, none⟩) (lt_cell hg5) (by simp)]; exact hg5)).mono ?_
    rintro e w' ⟨v, l, rfl, q1, q2, q3, q4, q5, q6⟩
    obtain ⟨a, c', rfl, _⟩ := q1.form
    have hb := q5.bk hxk.bk hx.ap
    have hap : b ∉ vb (.slice a l.length c') := fun hm => by
      rcases q6 b hm with h | h
      · exact hx.ap h
      · have := hx.bk.lt
        have e : (w.drewN k).heap.size = w.heap.size := rfl
        omega
    obtain ⟨m1, m2⟩ := mul_msb hX hY hx.av.ws hy.av.ws q2 q1.ws q3
    have hf : Fr (b :: vb (.slice ax X.length mx)) w (w'.setCell ⟨b, 5, none⟩ (.slice a l.length c')) := ((hf0.mono (S' := b :: vb (.slice ax X.length mx)) (by simp)).trans q5 (fun x hx => .inl (List.mem_cons_of_mem _ hx))).set _ _ (by simp)
    exact ⟨a, _, c', rfl, by rw [hb.cell]; rfl, hb.free 5, Lib.hid ⟨⟨l, rfl, FlB.setMant (A := X) hb q1 hap q4, q2, m2⟩, m1, by have := hX.1; omega, by omega, hf, fun k hk => q6 k hk⟩⟩
  have HE := Lib.hid hE1
  have HBW := Lib.hid hx.bk.lt
  have hEb : -20000 ≤ E1 ∧ E1 ≤ 20000 := by omega
  have e5 : ∀ k, (w.drewN k).cell? ⟨b, 5, none⟩ = some (.slice ax X.length mx) := fun k => cx.c5
  have e5' : ∀ k, (w.drewN k).cell? ⟨c, 5, none⟩ = some (.slice ay Y.length my) := fun k => cy.c5
  clear hx hy cx cy hbv hdj hcY hE1 hbc hX hY hcX
  go_enter Tryz.func237, Tryz.ntmps237
  go_wp2_with fail
  go_quiet (fail)
  go_upto_region 3 with fail
  have HM1 : Hid (Calls Tryz.prog 111 #[(.slice ax X.length mx), .pointer none, (.slice ax X.length mx), (.slice ay Y.length my)] (w.drewN nq).drew fun e w' => ∃ a m c, e = .returned (.slice a m c) ∧ w'.cell? ⟨b, 5, none⟩ = some (.slice ax X.length mx) ∧ w'.frozen? ⟨b, 5, none⟩ = false ∧ Hid (Um w (w'.setCell ⟨b, 5, none⟩ (.slice a m c)) b p acc ex (.slice ax X.length mx) (.slice a m c) (X.length + Y.length) m)) := HM.out (nq + 1)
  have e5a := e5 nq
  have e5b := e5' nq
  generalize w.drewN nq = W1 at *
  clear HM e5 e5' g6 g5
  go_cut [] from 33 to 48 (fun wx => ∃ a m cc, Hid (Um w wx b p acc ex (.slice ax X.length mx) (.slice a m cc) (X.length + Y.length) m))
  case first =>
    go_region_with (go_at_call 111; refine HM1.out.mono ?_; rintro e w3 ⟨a, m, cc, rfl, k1, k2, h3⟩)
    all_goals
      go_wp2_with fail
      go_meet
      case rel => exact ⟨_, _, _, h3⟩
  case rest =>
    obtain ⟨a, m, cc, h3⟩ := hcut
    have r5 : wc.cell? ⟨b, 5, none⟩ = some (.slice a m cc) := by
      obtain ⟨l, l1, l2, l3, l4⟩ := h3.out.ex
      exact l2.cs.c5
    have HN := Lib.hid h3.out.norm
    have hsw : ∀ s : Nat, s ≤ 1 → IntKind.i64.wrap (E1 - (s : Int)) = E1 - (s : Int) := fun s hs => IntWalk.i64_in _ (by omega)
    have HSE : Hid (∀ w9 (s : Nat), s ≤ 1 → Hid (∃ l, FlB w9 b p acc 1 false (.slice a m cc) ex l ∧ Msb l ∧ l.length = X.length + Y.length ∧ Fr (b :: vb (.slice ax X.length mx)) w w9) → Calls Tryz.prog 261 #[.pointer (some ⟨b, 0, none⟩), .int .i64 (E1 - (s : Int)), .int .u64 0] w9 fun e w' => e = .returned (.tuple #[]) ∧ Hid (∃ va', FlF w' b p false va' (ex + ey - 1) (ex + ey + 1) n ∧ (∀ k, k ∈ vb va' → k ∈ vb (.slice ax X.length mx) ∨ w.heap.size ≤ k) ∧ Fr (b :: vb (.slice ax X.length mx)) w w')) := fun w9 s hs hh => by
      obtain ⟨l, q1, q2, q3, q4⟩ := hh.out
      have hin := h3.out.inn
      have hE := HE.out
      refine (setExp_any (n := n) (sb := 0) q1 (by omega) hp hn1 hn q2 (by omega) (by omega) (by omega)).mono ?_
      rintro e w' ⟨rfl, hr⟩
      obtain ⟨va', ⟨a1, x1, A1, g1, g2, g3, g4, g5⟩, r2, r3⟩ := hr.out
      refine ⟨rfl, Lib.hid ⟨va', ⟨a1, x1, A1, g1, g2, g3, by omega, by omega⟩, fun k hk => hin k (r2 k hk), q4.trans r3 ?_⟩⟩
      intro x hx
      rcases List.mem_cons.1 hx with h | h
      · exact .inl (by simp [h])
      · rcases hin x h with h | h
        · exact .inl (List.mem_cons_of_mem _ h)
        · exact .inr h
    clear h3 HM1 e5a e5b z5
    go_wp2_with (first | (have hh := h4; go_at_call 261; refine (HSE.out _ _ hs4 h4).mono ?_; rintro e w5 ⟨rfl, h5'⟩) | (go_at_call 194; refine HN.out.mono ?_; rintro e w4 ⟨s, rfl, hs4, h4⟩; have hsw4 := hsw s hs4))
    go_end0
    exact ⟨rfl, h5'⟩
set_option maxRecDepth 1000000 in
set_option maxHeartbeats 2000000 in
theorem umul_sqr {w : World} {b p n : Nat} {acc ex : Int} {vx : Value} {X : List Int} (hx : FlB w b p acc 1 false vx ex X) (hX : Msb X) (lX : X.length ≤ 10) (hp : p = 64 * n) (hn1 : 1 ≤ n) (hn : n ≤ 1000) (hx0 : -10000 ≤ ex) (hx1 : ex ≤ 10000) (hg8 : w.cell? ⟨8, 0, none⟩ = some (.int .i64 12)) (hg9 : w.cell? ⟨9, 0, none⟩ = some (.int .i64 80)) :
    Calls Tryz.prog 237 #[.pointer (some ⟨b, 0, none⟩), .pointer (some ⟨b, 0, none⟩), .pointer (some ⟨b, 0, none⟩)] w fun e w' => e = .returned (.tuple #[]) ∧ Hid (∃ va', FlF w' b p false va' (ex + ex - 1) (ex + ex + 1) n ∧ (∀ k, k ∈ vb va' → k ∈ vb vx ∨ w.heap.size ≤ k) ∧ Fr (b :: vb vx) w w') := by
  have cx := hx.cs
  obtain ⟨ax, mx, hvx, hcX⟩ : ∃ a c, vx = .slice a X.length c ∧ X.length ≤ c := hx.av.form
  subst hvx
  have g6 := cx.c6
  have g5 := cx.c5
  have z5 := hx.bk.free 5
  obtain ⟨E1, hE1⟩ : ∃ E : Int, E = ex + ex := ⟨_, rfl⟩
  have f1 : IntKind.i64.wrap ex = ex := IntWalk.i64_in _ (by omega)
  have f3 : IntKind.i64.wrap (ex + ex) = E1 := by rw [IntWalk.i64_in _ (by omega)]; omega
  have hEQ := eql114_same b
  have HM : Hid (∀ k, Calls Tryz.prog 154 #[(.slice ax X.length mx), .pointer none, (.slice ax X.length mx)] (w.drewN k) fun e w' => ∃ a m c, e = .returned (.slice a m c) ∧ w'.cell? ⟨b, 5, none⟩ = some (.slice ax X.length mx) ∧ w'.frozen? ⟨b, 5, none⟩ = false ∧ Hid (Um w (w'.setCell ⟨b, 5, none⟩ (.slice a m c)) b p acc ex (.slice ax X.length mx) (.slice a m c) (X.length + X.length) m)) := fun k => by
    have hf0 : Fr [] w (w.drewN k) := (Fr.refl [] w).drewN k
    have hxk := hx.drewN k
    refine (sqr_any hxk.av hxk.av hx.cap hx.cap hX.1 (by omega) (by rw [hf0.cell (p := ⟨8, 0, none⟩) (lt_cell hg8) (by simp)]; exact hg8) (by rw [hf0.cell (p := ⟨9, 0, none⟩) (lt_cell hg9) (by simp)]; exact hg9)).mono ?_
    rintro e w' ⟨v, l, rfl, q1, q2, q3, q4, q5, q6⟩
    obtain ⟨a, c', rfl, _⟩ := q1.form
    have hb := q5.bk hxk.bk hx.ap
    have hap : b ∉ vb (.slice a l.length c') := fun hm => by
      rcases q6 b hm with h | h
      · exact hx.ap h
      · have := hx.bk.lt
        have e : (w.drewN k).heap.size = w.heap.size := rfl
        omega
    obtain ⟨m1, m2⟩ := mul_msb hX hX hx.av.ws hx.av.ws q2 q1.ws q3
    have hf : Fr (b :: vb (.slice ax X.length mx)) w (w'.setCell ⟨b, 5, none⟩ (.slice a l.length c')) := ((hf0.mono (S' := b :: vb (.slice ax X.length mx)) (by simp)).trans q5 (fun x hx => .inl (List.mem_cons_of_mem _ hx))).set _ _ (by simp)
    exact ⟨a, _, c', rfl, by rw [hb.cell]; rfl, hb.free 5, Lib.hid ⟨⟨l, rfl, FlB.setMant (A := X) hb q1 hap q4, q2, m2⟩, m1, by have := hX.1; omega, by omega, hf, fun k hk => q6 k hk⟩⟩
  have HE := Lib.hid hE1
  have HBW := Lib.hid hx.bk.lt
  have hEb : -20000 ≤ E1 ∧ E1 ≤ 20000 := by omega
  have e5 : ∀ k, (w.drewN k).cell? ⟨b, 5, none⟩ = some (.slice ax X.length mx) := fun k => cx.c5
  have e5' : ∀ k, (w.drewN k).cell? ⟨b, 5, none⟩ = some (.slice ax X.length mx) := fun k => cx.c5
  clear hx cx hE1 hX hcX
  go_enter Tryz.func237, Tryz.ntmps237
  go_wp2_with fail
  go_quiet (fail)
  go_upto_region 2 with fail
  have HM1 : Hid (Calls Tryz.prog 154 #[(.slice ax X.length mx), .pointer none, (.slice ax X.length mx)] (w.drewN nq).drew fun e w' => ∃ a m c, e = .returned (.slice a m c) ∧ w'.cell? ⟨b, 5, none⟩ = some (.slice ax X.length mx) ∧ w'.frozen? ⟨b, 5, none⟩ = false ∧ Hid (Um w (w'.setCell ⟨b, 5, none⟩ (.slice a m c)) b p acc ex (.slice ax X.length mx) (.slice a m c) (X.length + X.length) m)) := HM.out (nq + 1)
  have e5a := e5 nq
  have e5b := e5' nq
  generalize w.drewN nq = W1 at *
  clear HM e5 e5' g6 g5
  go_cut [] from 21 to 32 (fun wx => ∃ a m cc, Hid (Um w wx b p acc ex (.slice ax X.length mx) (.slice a m cc) (X.length + X.length) m))
  case first =>
    go_region_with (go_at_call 154; refine HM1.out.mono ?_; rintro e w3 ⟨a, m, cc, rfl, k1, k2, h3⟩)
    all_goals
      go_wp2_with fail
      go_meet
      case rel => exact ⟨_, _, _, h3⟩
  case rest =>
    obtain ⟨a, m, cc, h3⟩ := hcut
    have r5 : wc.cell? ⟨b, 5, none⟩ = some (.slice a m cc) := by
      obtain ⟨l, l1, l2, l3, l4⟩ := h3.out.ex
      exact l2.cs.c5
    have HN := Lib.hid h3.out.norm
    have hsw : ∀ s : Nat, s ≤ 1 → IntKind.i64.wrap (E1 - (s : Int)) = E1 - (s : Int) := fun s hs => IntWalk.i64_in _ (by omega)
    have HSE : Hid (∀ w9 (s : Nat), s ≤ 1 → Hid (∃ l, FlB w9 b p acc 1 false (.slice a m cc) ex l ∧ Msb l ∧ l.length = X.length + X.length ∧ Fr (b :: vb (.slice ax X.length mx)) w w9) → Calls Tryz.prog 261 #[.pointer (some ⟨b, 0, none⟩), .int .i64 (E1 - (s : Int)), .int .u64 0] w9 fun e w' => e = .returned (.tuple #[]) ∧ Hid (∃ va', FlF w' b p false va' (ex + ex - 1) (ex + ex + 1) n ∧ (∀ k, k ∈ vb va' → k ∈ vb (.slice ax X.length mx) ∨ w.heap.size ≤ k) ∧ Fr (b :: vb (.slice ax X.length mx)) w w')) := fun w9 s hs hh => by
      obtain ⟨l, q1, q2, q3, q4⟩ := hh.out
      have hin := h3.out.inn
      have hE := HE.out
      refine (setExp_any (n := n) (sb := 0) q1 (by omega) hp hn1 hn q2 (by omega) (by omega) (by omega)).mono ?_
      rintro e w' ⟨rfl, hr⟩
      obtain ⟨va', ⟨a1, x1, A1, g1, g2, g3, g4, g5⟩, r2, r3⟩ := hr.out
      refine ⟨rfl, Lib.hid ⟨va', ⟨a1, x1, A1, g1, g2, g3, by omega, by omega⟩, fun k hk => hin k (r2 k hk), q4.trans r3 ?_⟩⟩
      intro x hx
      rcases List.mem_cons.1 hx with h | h
      · exact .inl (by simp [h])
      · rcases hin x h with h | h
        · exact .inl (List.mem_cons_of_mem _ h)
        · exact .inr h
    clear h3 HM1 e5a e5b z5
    go_wp2_with (first | (have hh := h4; go_at_call 261; refine (HSE.out _ _ hs4 h4).mono ?_; rintro e w5 ⟨rfl, h5'⟩) | (go_at_call 194; refine HN.out.mono ?_; rintro e w4 ⟨s, rfl, hs4, h4⟩; have hsw4 := hsw s hs4))
    go_end0
    exact ⟨rfl, h5'⟩
end Go.Proofs.YtfbbkngonohlkaaGreatDoor
/- Float.Mul of two numbers, into the first. -/
namespace Go.Proofs.YtfbbkngonohlkaaGreatDoor
open Go Go.RowKit
set_option linter.unusedVariables false
set_option linter.unusedSimpArgs false
set_option maxRecDepth 100000 in
theorem fmul_mul {E : Value} {w : World} {b c p p2 n : Nat} {acc acc2 ex ey : Int} {vx vy : Value} {X Y : List Int} (hG : Glb E w) (hb16 : 16 ≤ b) (hx : FlB w b p acc 1 false vx ex X) (hy : FlB w c p2 acc2 1 false vy ey Y) (hX : Msb X) (lX : X.length ≤ 10) (hY : Msb Y) (lY : Y.length ≤ 10) (hbc : b ≠ c) (hbv : b ∉ vb vy) (hdj : ∀ k, k ∈ vb vx → k ∉ vb vy) (hp : p = 64 * n) (hn1 : 1 ≤ n) (hn : n ≤ 1000) (hx0 : -10000 ≤ ex) (hx1 : ex ≤ 10000) (hy0 : -10000 ≤ ey) (hy1 : ey ≤ 10000) :
    Calls Tryz.prog 198 #[.pointer (some ⟨b, 0, none⟩), .pointer (some ⟨b, 0, none⟩), .pointer (some ⟨c, 0, none⟩)] w fun e w' => e = .returned (.pointer (some ⟨b, 0, none⟩)) ∧ Hid (∃ va', FlF w' b p false va' (ex + ey - 1) (ex + ey + 1) n ∧ (∀ k, k ∈ vb va' → k ∈ vb vx ∨ w.heap.size ≤ k) ∧ Fr (b :: vb vx) w w') := by
  obtain ⟨c0, c1, c2, c3, c4, c5, c6⟩ := hx.cs
  obtain ⟨d0, d1, d2, d3, d4, d5, d6⟩ := hy.cs
  have f4 := hx.bk.free 4
  have h1 := (hx.drewN 1).setNeg false
  have hf : Fr [b] w ((w.drewN 1).setCell ⟨b, 4, none⟩ (.bool false)) := ((Fr.refl [b] w).drewN 1).set _ _ (by simp)
  have hG1 : Glb E ((w.drewN 1).setCell ⟨b, 4, none⟩ (.bool false)) := hG.fr hf (by simp; exact hb16)
  have hp0 : ((p : Int) == 0) = false := beq_eq_false_iff_ne.2 (by omega)
  have h2 := hy.fr hf (by simp; exact fun e => hbc e.symm) (fun k hk hm => by simp at hm; subst hm; exact hbv hk)
  have HU : Hid (Calls Tryz.prog 237 #[.pointer (some ⟨b, 0, none⟩), .pointer (some ⟨b, 0, none⟩), .pointer (some ⟨c, 0, none⟩)] (w.drew.setCell ⟨b, 4, none⟩ (.bool false)) fun e w' => e = .returned (.tuple #[]) ∧ Hid (∃ va', FlF w' b p false va' (ex + ey - 1) (ex + ey + 1) n ∧ (∀ k, k ∈ vb va' → k ∈ vb vx ∨ (w.drew.setCell ⟨b, 4, none⟩ (.bool false)).heap.size ≤ k) ∧ Fr (b :: vb vx) (w.drew.setCell ⟨b, 4, none⟩ (.bool false)) w')) := umul_mul h1 h2 hX lX hY lY hbc hbv hdj hp hn1 hn hx0 hx1 hy0 hy1 hG1.g5
  have k3 : (w.drew.setCell ⟨b, 4, none⟩ (.bool false)).cell? ⟨b, 3, none⟩ = some (.int .u8 1) := h1.cs.c3
  have k3' : (w.drew.setCell ⟨b, 4, none⟩ (.bool false)).cell? ⟨c, 3, none⟩ = some (.int .u8 1) := h2.cs.c3
  have HF := Lib.hid hf
  clear hx h1 hf c1 c2 c5 c6 hG hG1 hy h2 d0 d1 d2 d5 d6 hdj hbv hbc
  go_enter Tryz.func198, Tryz.ntmps198
  go_upto_region 3 with fail
  go_still_tail 12, (by kernel_rfl)
  change wpList _ _ _ _ _ w.drew
  go_wp2_with (go_at_call 237; refine HU.out.mono ?_; rintro e w1 ⟨rfl, h1⟩)
  go_ret
  obtain ⟨va', q1, q2, q3⟩ := h1.out
  have hf2 : Fr [b] w (w.drew.setCell ⟨b, 4, none⟩ (.bool false)) := HF.out
  refine ⟨rfl, va', q1, fun k hk => ?_, (hf2.mono (by simp)).trans q3 (fun x hx => .inl hx)⟩
  rcases q2 k hk with h | h
  · exact .inl h
  · exact .inr (Nat.le_trans hf2.size h)
set_option maxRecDepth 100000 in
theorem fmul_sqr {E : Value} {w : World} {b p n : Nat} {acc ex : Int} {vx : Value} {X : List Int} (hG : Glb E w) (hb16 : 16 ≤ b) (hx : FlB w b p acc 1 false vx ex X) (hX : Msb X) (lX : X.length ≤ 10) (hp : p = 64 * n) (hn1 : 1 ≤ n) (hn : n ≤ 1000) (hx0 : -10000 ≤ ex) (hx1 : ex ≤ 10000) :
    Calls Tryz.prog 198 #[.pointer (some ⟨b, 0, none⟩), .pointer (some ⟨b, 0, none⟩), .pointer (some ⟨b, 0, none⟩)] w fun e w' => e = .returned (.pointer (some ⟨b, 0, none⟩)) ∧ Hid (∃ va', FlF w' b p false va' (ex + ex - 1) (ex + ex + 1) n ∧ (∀ k, k ∈ vb va' → k ∈ vb vx ∨ w.heap.size ≤ k) ∧ Fr (b :: vb vx) w w') := by
  obtain ⟨c0, c1, c2, c3, c4, c5, c6⟩ := hx.cs
  have f4 := hx.bk.free 4
  have h1 := (hx.drewN 1).setNeg false
  have hf : Fr [b] w ((w.drewN 1).setCell ⟨b, 4, none⟩ (.bool false)) := ((Fr.refl [b] w).drewN 1).set _ _ (by simp)
  have hG1 : Glb E ((w.drewN 1).setCell ⟨b, 4, none⟩ (.bool false)) := hG.fr hf (by simp; exact hb16)
  have hp0 : ((p : Int) == 0) = false := beq_eq_false_iff_ne.2 (by omega)
  have HU : Hid (Calls Tryz.prog 237 #[.pointer (some ⟨b, 0, none⟩), .pointer (some ⟨b, 0, none⟩), .pointer (some ⟨b, 0, none⟩)] (w.drew.setCell ⟨b, 4, none⟩ (.bool false)) fun e w' => e = .returned (.tuple #[]) ∧ Hid (∃ va', FlF w' b p false va' (ex + ex - 1) (ex + ex + 1) n ∧ (∀ k, k ∈ vb va' → k ∈ vb vx ∨ (w.drew.setCell ⟨b, 4, none⟩ (.bool false)).heap.size ≤ k) ∧ Fr (b :: vb vx) (w.drew.setCell ⟨b, 4, none⟩ (.bool false)) w')) := umul_sqr h1 hX lX hp hn1 hn hx0 hx1 hG1.g8 hG1.g9
  have k3 : (w.drew.setCell ⟨b, 4, none⟩ (.bool false)).cell? ⟨b, 3, none⟩ = some (.int .u8 1) := h1.cs.c3
  have HF := Lib.hid hf
  clear hx h1 hf c1 c2 c5 c6 hG hG1
  go_enter Tryz.func198, Tryz.ntmps198
  go_upto_region 3 with fail
  go_still_tail 12, (by kernel_rfl)
  change wpList _ _ _ _ _ w.drew
  go_wp2_with (go_at_call 237; refine HU.out.mono ?_; rintro e w1 ⟨rfl, h1⟩)
  go_ret
  obtain ⟨va', q1, q2, q3⟩ := h1.out
  have hf2 : Fr [b] w (w.drew.setCell ⟨b, 4, none⟩ (.bool false)) := HF.out
  refine ⟨rfl, va', q1, fun k hk => ?_, (hf2.mono (by simp)).trans q3 (fun x hx => .inl hx)⟩
  rcases q2 k hk with h | h
  · exact .inl h
  · exact .inr (Nat.le_trans hf2.size h)
end Go.Proofs.YtfbbkngonohlkaaGreatDoor
/- Float.pow5 beyond 27: a number with its exponent's bounds. -/
namespace Go.Proofs.YtfbbkngonohlkaaGreatDoor
open Go Go.RowKit
set_option linter.unusedVariables false
set_option linter.unusedSimpArgs false
theorem and_one64 {n : Nat} (h : n < 9223372036854775808) : bits .and .u64 (n : Int) 1 = ((n % 2 : Nat) : Int) := by
  have h1 : (BitVec.ofInt 64 (n : Int)).toNat = n := by
    rw [BitVec.ofInt_natCast, BitVec.toNat_ofNat]; exact Nat.mod_eq_of_lt (by omega)
  have h2 : (BitVec.ofInt 64 (1 : Int)).toNat = 1 := by decide
  show IntKind.u64.wrap ((BitVec.ofInt 64 (n : Int) &&& BitVec.ofInt 64 (1 : Int)).toNat : Int) = _
  rw [BitVec.toNat_and, h1, h2, Nat.and_one_is_mod, wrap_mod]
  omega
/-- pow5's loop: c of the exponent is in z, f is 5 to the P, r is left. -/
structure P5 (w wr : World) (b fb N : Nat) (va : Value) (r P c : Nat) : Prop where
  eq : c + r * P = N
  p1 : 1 ≤ P
  ps : P ≤ 700
  z : ∃ vz Z ez az, FlB wr b 576 az 1 false vz ez Z ∧ Msb Z ∧ Z.length ≤ 9 ∧ 1 + 2 * (c : Int) ≤ ez ∧ ez ≤ 64 + 4 * (c : Int) ∧ (∀ k, k ∈ vb vz → k ∈ vb va ∨ w.heap.size ≤ k) ∧ fb ∉ vb vz ∧
    ∃ vf F ef af, FlB wr fb 640 af 1 false vf ef F ∧ Msb F ∧ F.length ≤ 10 ∧ 2 * (P : Int) + 1 ≤ ef ∧ ef ≤ 4 * (P : Int) - 1 ∧ (∀ k, k ∈ vb vf → w.heap.size ≤ k) ∧ b ∉ vb vf ∧ (∀ k, k ∈ vb vz → k ∉ vb vf)
  fr : Fr (b :: vb va) w wr
  fw : w.heap.size ≤ fb
  bw : b < w.heap.size
/-- z times f. -/
theorem P5.mul {E : Value} {w wr : World} {b fb N r P c : Nat} {va : Value} (h : P5 w wr b fb N va r P c) (hG : Glb E w) (hb16 : 16 ≤ b) (hva : ∀ k, k ∈ vb va → 16 ≤ k) (hN : N ≤ 320) (hr : r % 2 = 1) :
    Calls Tryz.prog 198 #[.pointer (some ⟨b, 0, none⟩), .pointer (some ⟨b, 0, none⟩), .pointer (some ⟨fb, 0, none⟩)] wr fun e w' => e = .returned (.pointer (some ⟨b, 0, none⟩)) ∧ Hid (P5 w w' b fb N va (r - 1) P (c + P)) := by
  obtain ⟨heq, p1, ps, ⟨vz, Z, ez, az, z1, z2, z3, z4, z5, z6, z7, vf, F, ef, af, f1, f2, f3, f4, f5, f6, f7, f8⟩, hf, hfw, hbw⟩ := h
  have hG2 : Glb E wr := hG.fr hf (fun x hx => by
    rcases List.mem_cons.1 hx with h | h
    · omega
    · exact hva x h)
  have hcN : c ≤ N := by rw [← heq]; omega
  refine (fmul_mul hG2 hb16 z1 f1 z2 (by omega) f2 f3 (by omega) f7 f8 (n := 9) (p := 576) rfl (by omega) (by omega) (by omega) (by omega) (by omega) (by omega)).mono ?_
  rintro e w' ⟨rfl, hh⟩
  obtain ⟨v', ⟨a', x', A', g1, g2, g3, g4, g5⟩, q2, q3⟩ := hh.out
  obtain ⟨r', hr'⟩ : ∃ r', r = r' + 1 := ⟨r - 1, by omega⟩
  have hsz := hf.size
  have hfs : ∀ x, x ∈ b :: vb vz → x ∉ vb vf ∧ x ≠ fb := fun x hx => by
    rcases List.mem_cons.1 hx with h | h
    · exact ⟨h ▸ f7, by omega⟩
    · exact ⟨f8 x h, fun e => z7 (e ▸ h)⟩
  have hff := f1.fr q3 (fun hm => (hfs _ hm).2 rfl) (fun k hk hm => (hfs k hm).1 hk)
  have hfbl := f1.bk.lt
  refine ⟨rfl, ⟨?_, p1, ps, ⟨v', A', x', a', g1, g2, g3, by push_cast; omega, by push_cast; omega, fun k hk => ?_, fun hm => ?_, vf, F, ef, af, hff, f2, f3, f4, f5, f6, f7, fun k hk hm => ?_⟩, hf.trans q3 (fun x hx => ?_), hfw, hbw⟩⟩
  · subst hr'
    rw [← heq, Nat.succ_mul]
    simp only [Nat.add_sub_cancel]
    omega
  · rcases q2 k hk with h | h
    · exact z6 k h
    · exact .inr (by omega)
  · rcases q2 fb hm with h | h
    · exact z7 h
    · omega
  · rcases q2 k hk with h | h
    · exact f8 k h hm
    · have := f1.av.lt k hm
      omega
  · rcases List.mem_cons.1 hx with h | h
    · exact .inl (by simp [h])
    · rcases z6 x h with h | h
      · exact .inl (List.mem_cons_of_mem _ h)
      · exact .inr h
/-- f squared. -/
theorem P5.sqr {E : Value} {w wr : World} {b fb N r P c : Nat} {va : Value} (h : P5 w wr b fb N va r P c) (hG : Glb E w) (hb16 : 16 ≤ b) (hva : ∀ k, k ∈ vb va → 16 ≤ k) (hN : N ≤ 320) (hr : r % 2 = 0) (hP : P ≤ 320) :
    Calls Tryz.prog 198 #[.pointer (some ⟨fb, 0, none⟩), .pointer (some ⟨fb, 0, none⟩), .pointer (some ⟨fb, 0, none⟩)] wr fun e w' => e = .returned (.pointer (some ⟨fb, 0, none⟩)) ∧ Hid (P5 w w' b fb N va (r / 2) (2 * P) c) := by
  obtain ⟨heq, p1, ps, ⟨vz, Z, ez, az, z1, z2, z3, z4, z5, z6, z7, vf, F, ef, af, f1, f2, f3, f4, f5, f6, f7, f8⟩, hf, hfw, hbw⟩ := h
  have hG2 : Glb E wr := hG.fr hf (fun x hx => by
    rcases List.mem_cons.1 hx with h | h
    · omega
    · exact hva x h)
  have h16 : 16 ≤ fb := by have := hG.size; omega
  refine (fmul_sqr hG2 h16 f1 f2 f3 (n := 10) (p := 640) rfl (by omega) (by omega) (by omega) (by omega)).mono ?_
  rintro e w' ⟨rfl, hh⟩
  obtain ⟨v', ⟨a', x', A', g1, g2, g3, g4, g5⟩, q2, q3⟩ := hh.out
  have hsz := hf.size
  have hzs : ∀ x, x ∈ fb :: vb vf → x ∉ vb vz ∧ x ≠ b := fun x hx => by
    rcases List.mem_cons.1 hx with h | h
    · exact ⟨h ▸ z7, by omega⟩
    · exact ⟨fun hz => f8 x hz h, fun e => f7 (e ▸ h)⟩
  have hzz := z1.fr q3 (fun hm => (hzs _ hm).2 rfl) (fun k hk hm => (hzs k hm).1 hk)
  have hbl := z1.bk.lt
  refine ⟨rfl, ⟨?_, by omega, by omega, ⟨vz, Z, ez, az, hzz, z2, z3, z4, z5, z6, z7, v', A', x', a', g1, g2, g3, by push_cast; omega, by push_cast; omega, fun k hk => ?_, fun hm => ?_, fun k hk hm => ?_⟩, hf.trans q3 (fun x hx => ?_), hfw, hbw⟩⟩
  · rw [← heq]
    have e : r = 2 * (r / 2) := by omega
    conv => rhs; rw [e]
    rw [Nat.mul_comm 2 (r / 2), Nat.mul_assoc]
  · rcases q2 k hk with h | h
    · exact f6 k h
    · omega
  · rcases q2 b hm with h | h
    · exact f7 h
    · omega
  · rcases q2 k hm with h | h
    · exact f8 k hk h
    · have := z1.av.lt k hk
      omega
  · rcases List.mem_cons.1 hx with h | h
    · exact .inr (by omega)
    · exact .inr (f6 x h)
theorem P5.drewN {w wr : World} {b fb N r P c : Nat} {va : Value} (h : P5 w wr b fb N va r P c) (k : Nat) : P5 w (wr.drewN k) b fb N va r P c := by
  obtain ⟨heq, p1, ps, ⟨vz, Z, ez, az, z1, z2, z3, z4, z5, z6, z7, vf, F, ef, af, f1, f2⟩, hf, hfw, hbw⟩ := h
  exact ⟨heq, p1, ps, ⟨vz, Z, ez, az, z1.drewN k, z2, z3, z4, z5, z6, z7, vf, F, ef, af, f1.drewN k, f2⟩, hf.drewN k, hfw, hbw⟩
theorem five_ex : ∀ s : Nat, s < 64 → (2 : Int) ^ 63 ≤ 5 * 2 ^ s → 5 * 2 ^ s < (2 : Int) ^ 64 → s = 61 := by decide
set_option maxRecDepth 1000000 in
set_option maxHeartbeats 1000000 in
theorem pow5_big {E : Value} {w : World} {b N : Nat} {acc form ex : Int} {neg : Bool} {va : Value} {A : List Int} (hG : Glb E w) (hb16 : 16 ≤ b) (h : FlB w b 576 acc form neg va ex A) (hva : ∀ k, k ∈ vb va → 16 ≤ k) (hN1 : 28 ≤ N) (hN2 : N ≤ 330) :
    Calls Tryz.prog 197 #[.pointer (some ⟨b, 0, none⟩), .int .u64 (N : Int)] w fun e w' => e = .returned (.pointer (some ⟨b, 0, none⟩)) ∧ Hid (∃ v Y ey acc', FlB w' b 576 acc' 1 false v ey Y ∧ Msb Y ∧ Y.length ≤ 9 ∧ 1 ≤ ey ∧ ey ≤ 1300 ∧ Fr (b :: vb va) w w' ∧ (∀ k, k ∈ vb v → k ∈ vb va ∨ w.heap.size ≤ k)) := by
  have hg := hG.g12 27 (by omega)
  obtain ⟨x, hx⟩ : ∃ x : Int, (5 : Int) ^ 27 = x := ⟨_, rfl⟩
  have hxv : x = 7450580596923828125 := by rw [← hx]; decide
  rw [hx] at hg
  have H1 := Lib.hid (setU64_any (p := 576) h (by omega) (by omega) (x := x) ⟨by omega, by omega⟩ (by omega))
  obtain ⟨M, hM⟩ : ∃ M, M = N - 27 := ⟨_, rfl⟩
  have e1 : decide ((N : Int) ≤ 27) = false := decide_eq_false (by omega)
  have e1b : ¬ ((N : Int) ≤ 27) := by omega
  have e2 : IntKind.u64.wrap ((N : Int) - 27) = (M : Int) := by rw [wrap_mod]; omega
  have HB := Lib.hid (And.intro h.bk.lt (And.intro hva (And.intro hG h.av.lt)))
  have hM3 : M ≤ 303 := by omega
  have HX : Hid (∀ w1, Hid (∃ v l ex', FlB w1 b 576 0 1 false v ex' l ∧ Msb l ∧ l.length = 1 ∧ 1 ≤ ex' ∧ ex' ≤ 64 ∧ Fr (b :: vb va) w w1 ∧ (∀ k, k ∈ vb v → k ∈ vb va ∨ w.heap.size ≤ k)) → Calls Tryz.prog 195 #[.pointer (some ⟨b, 0, none⟩)] (w1.alloc z166) fun e w' => e = .returned (.int .u64 576) ∧ w' = w1.alloc z166) := fun w1 hh => by
    obtain ⟨v, l, ex', g1, _⟩ := hh.out
    refine (prec_any (p := 576) (g1.fr ((Fr.refl [] w1).alloc z166) (by simp) (by simp)) (by omega)).mono ?_
    rintro e w' ⟨rfl, rfl⟩
    exact ⟨rfl, rfl⟩
  have HSP : Hid (∀ w1, Calls Tryz.prog 97 #[.pointer (some ⟨w1.heap.size, 0, none⟩), .int .u64 640] (w1.alloc z166) fun e w' => e = .returned (.pointer (some ⟨w1.heap.size, 0, none⟩)) ∧ Hid (FlB w' w1.heap.size 640 0 0 false (.slice none 0 0) 0 [] ∧ Fr [] w1 w')) := fun w1 => by
    refine (setPrec_new (p := 640) (z166_fl w1) (by omega) (by omega)).mono ?_
    rintro e w' ⟨rfl, hh⟩
    exact ⟨rfl, hh.out.1, ((Fr.refl [] w1).alloc z166).trans hh.out.2 (by simp)⟩
  have HF : Hid (∀ w1 u, Hid (∃ v l ex', FlB w1 b 576 0 1 false v ex' l ∧ Msb l ∧ l.length = 1 ∧ 1 ≤ ex' ∧ ex' ≤ 64 ∧ Fr (b :: vb va) w w1 ∧ (∀ k, k ∈ vb v → k ∈ vb va ∨ w.heap.size ≤ k)) → Hid (FlB u w1.heap.size 640 0 0 false (.slice none 0 0) 0 [] ∧ Fr [] w1 u) → Calls Tryz.prog 236 #[.pointer (some ⟨w1.heap.size, 0, none⟩), .int .u64 5] u fun e w' => e = .returned (.pointer (some ⟨w1.heap.size, 0, none⟩)) ∧ Hid (P5 w w' b w1.heap.size M va M 1 0)) := fun w1 u hh h2 => by
    obtain ⟨v, l, ex', g1, g2, g3, g4, g5, g6, g7⟩ := hh.out
    obtain ⟨k1, k2⟩ := h2.out
    refine (setU64_val (p := 640) k1 (by omega) (by omega) (x := 5) ⟨by omega, by omega⟩ (by omega)).mono ?_
    rintro e w' ⟨rfl, h3⟩
    obtain ⟨vf, F, ef, f1, f2, f3, f4, f5, f6, f7, s, f8, f9, f10⟩ := h3.out
    have hs := five_ex s (by omega) f9 f10
    have hz2 : Fr [] w1 w' := k2.trans f6 (fun x hx => by
      have := k2.size
      rcases List.mem_cons.1 hx with h | h
      · exact .inr (by omega)
      · cases h)
    have hbl := g1.bk.lt
    have hsz := g6.size
    have hu := k2.size
    refine ⟨rfl, ⟨by omega, by omega, by omega, ⟨v, l, ex', 0, g1.fr hz2 (by simp) (by simp), g2, by omega, by omega, by omega, g7, fun hm => ?_, vf, F, ef, 0, f1, f2, by omega, by omega, by omega, fun k hk => ?_, fun hm => ?_, fun k hk hm => ?_⟩, g6.trans hz2 (by simp), hsz, HB.out.1⟩⟩
    · have := g1.av.lt _ hm; omega
    · rcases f7 k hk with h | h
      · cases h
      · omega
    · rcases f7 b hm with h | h
      · cases h
      · omega
    · have := g1.av.lt _ hk
      rcases f7 k hm with h | h
      · cases h
      · omega
  have HFIN : Hid (∀ wr fb P c, Hid (P5 w wr b fb M va 0 P c) → Hid (∃ v Y ey acc', FlB wr b 576 acc' 1 false v ey Y ∧ Msb Y ∧ Y.length ≤ 9 ∧ 1 ≤ ey ∧ ey ≤ 1300 ∧ Fr (b :: vb va) w wr ∧ (∀ k, k ∈ vb v → k ∈ vb va ∨ w.heap.size ≤ k))) := fun wr fb P c hh => by
    obtain ⟨heq, p1, ps, ⟨vz, Z, ez, az, z1, z2, z3, z4, z5, z6, z7, _⟩, hf, hfw, hbw⟩ := hh.out
    have : c = M := by rw [← heq]; omega
    exact ⟨vz, Z, ez, az, z1, z2, z3, by omega, by omega, hf, z6⟩
  clear h hG hva hx hxv hM
  go_enter Tryz.func197, Tryz.ntmps197
  go_wp2_with (first | (have hh := h3; go_at_call 236; refine (HF.out _ _ h1 h3).mono ?_; rintro e w4 ⟨rfl, h4⟩) | (go_at_call 97; refine (HSP.out w1).mono ?_; rintro e w3 ⟨rfl, h3⟩) | (have hh := h1; go_at_call 195; refine (HX.out w1 h1).mono ?_; rintro e w2 ⟨rfl, rfl⟩) | (go_at_call 236; refine H1.out.mono ?_; rintro e w1 ⟨rfl, h1⟩))
  generalize w1.heap.size = fb at *
  go_loopw [1] (fun n wr => ∃ (r P c : Nat), n = .int .u64 r ∧ r ≤ 303 ∧ Hid (P5 w wr b fb M va r P c)) (fun n _ => (intOf n).toNat)
  case atStart => exact ⟨M, 1, 0, rfl, hM3, h4⟩
  case round =>
    obtain ⟨r, P, c, rfl, hr3, hP⟩ := hrel
    rcases Nat.eq_zero_or_pos r with hr | hr
    · subst hr
      have HE := HFIN.out _ _ _ _ hP
      clear hP
      go_wp2_with fail
      go_ret
      exact ⟨rfl, HE⟩
    · have ha := and_one64 (n := r) (by omega)
      have hlt : (0 : Int) < (r : Int) := by omega
      have hP3 : P ≤ 303 := by
        have := hP.out.eq
        have h1 : 1 * P ≤ r * P := Nat.mul_le_mul_right _ hr
        omega
      rcases Nat.mod_two_eq_zero_or_one r with he | he
      · have C2 := Lib.hid (hP.out.sqr HB.out.2.2.1 hb16 HB.out.2.1 (by omega) he (by omega))
        rw [he] at ha
        have HE := Lib.hid he
        clear hP he
        go_wp2_with (go_at_call 198; refine C2.out.mono ?_; rintro e w6 ⟨rfl, h6⟩)
        go_roundw
        case rel => exact ⟨r / 2, 2 * P, c, by push_cast; rfl, by omega, h6⟩
        case measure => simp [intOf]; omega
      · have C1 := Lib.hid (hP.out.mul HB.out.2.2.1 hb16 HB.out.2.1 (by omega) he)
        rw [he] at ha
        have HE := Lib.hid he
        have C2 : Hid (∀ u, Hid (P5 w u b fb M va (r - 1) P (c + P)) → Calls Tryz.prog 198 #[.pointer (some ⟨fb, 0, none⟩), .pointer (some ⟨fb, 0, none⟩), .pointer (some ⟨fb, 0, none⟩)] u fun e w' => e = .returned (.pointer (some ⟨fb, 0, none⟩)) ∧ Hid (P5 w w' b fb M va ((r - 1) / 2) (2 * P) (c + P))) := fun u hh => hh.out.sqr HB.out.2.2.1 hb16 HB.out.2.1 (by omega) (by have := HE.out; omega) (by omega)
        clear hP he
        go_wp2_with (first | (have hh := h5; go_at_call 198; refine (C2.out _ h5).mono ?_; rintro e w6 ⟨rfl, h6⟩) | (go_at_call 198; refine C1.out.mono ?_; rintro e w5 ⟨rfl, h5⟩))
        go_roundw
        case rel =>
          have e : (r - 1) / 2 = r / 2 := by have := HE.out; omega
          rw [e] at h6
          exact ⟨r / 2, 2 * P, c + P, by push_cast; rfl, by omega, h6⟩
        case measure => simp [intOf]; omega
end Go.Proofs.YtfbbkngonohlkaaGreatDoor
