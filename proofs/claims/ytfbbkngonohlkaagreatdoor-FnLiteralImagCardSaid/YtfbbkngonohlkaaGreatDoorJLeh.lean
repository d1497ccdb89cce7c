/- Joined texts: Small1, Lehmer. -/
import Derived.Test.YtfbbkngonohlkaaGreatDoorLehTail
import Derived.LaidEqlPtr
import Derived.Deep.CutRange
import Derived.Deep.CutBlock
import Derived.Deep.DeepCutAuto
/- natFive, intOne, NewInt of nothing, newRat, getStack and its free. -/
namespace Go.Proofs.YtfbbkngonohlkaaGreatDoor
open Go Go.RowKit
set_option linter.unusedVariables false
set_option linter.unusedSimpArgs false
theorem NatAt.one (w : World) {x : Int} (hx : Wd x) : NatAt (w.alloc (.cells #[.int .u64 x] 162)) (.slice (some ⟨w.heap.size, 0, none⟩) 1 1) w.heap.size [x] :=
  ⟨162, [], rfl, Bk.new w 162 [.int .u64 x], Ws.single hx.1 hx.2⟩
theorem natFive_any {w : World} : Calls Tryz.prog 109 #[] w fun e w' => ∃ b, e = .returned (.slice (some ⟨b, 0, none⟩) 1 1) ∧ Hid (NatV w' (.slice (some ⟨b, 0, none⟩) 1 1) [5] ∧ w.heap.size ≤ b ∧ Fr [] w w') := by
  go_enter Tryz.func109, Tryz.ntmps109
  go_wp2_with fail
  go_ret
  exact ⟨_, rfl, (NatAt.one w ⟨by omega, by omega⟩).v, Nat.le_refl _, (Fr.refl _ _).alloc _⟩
theorem natOne_any {w : World} : Calls Tryz.prog 186 #[] w fun e w' => e = .returned (.slice (some ⟨w.heap.size, 0, none⟩) 1 1) ∧ w' = w.alloc (.cells #[.int .u64 1] 162) := by
  go_enter Tryz.func186, Tryz.ntmps186
  go_wp2_with fail
  go_ret
  exact ⟨rfl, rfl⟩
theorem intOne_any {w : World} : Calls Tryz.prog 131 #[] w fun e w' => ∃ b v, e = .returned (.pointer (some ⟨b, 0, none⟩)) ∧ Hid (IntB w' b v [1] ∧ w.heap.size ≤ b ∧ Fr [] w w') := by
  have HN := Lib.hid (natOne_any (w := w))
  go_enter Tryz.func131, Tryz.ntmps131
  go_wp2_with (go_at_call 186; refine HN.out.mono ?_; rintro e w1 ⟨rfl, rfl⟩)
  go_ret
  have h1 := (NatAt.one w (x := 1) ⟨by omega, by omega⟩).v
  refine ⟨_, .slice (some ⟨w.heap.size, 0, none⟩) 1 1, rfl, ⟨by have := Bk.new (w.alloc (.cells #[.int .u64 1] 162)) 110 [.bool false, .slice (some ⟨w.heap.size, 0, none⟩) 1 1]; rw [World.size_alloc] at this; exact this, h1.fr ((Fr.refl [] _).alloc _) (by simp), Nrm.single (by omega), by simp [capOf], by simp [vb]⟩, by simp, ((Fr.refl [] w).alloc _).alloc _⟩
theorem newInt_zero {w : World} : Calls Tryz.prog 128 #[.int .i64 0] w fun e w' => e = .returned (.pointer (some ⟨w.heap.size, 0, none⟩)) ∧ w' = w.alloc z110 := by
  go_enter Tryz.func128, Tryz.ntmps128
  go_wp2_with fail
  go_ret
  exact ⟨rfl, rfl⟩
theorem newRat_any {w : World} : Calls Tryz.prog 65 #[] w fun e w' => e = .returned (.pointer (some ⟨w.heap.size, 0, none⟩)) ∧ w' = w.alloc (.cells #[.bool false, .slice none 0 0, .bool false, .slice none 0 0] 160) := by
  go_enter Tryz.func65, Tryz.ntmps65
  go_wp2_with fail
  go_ret
  exact ⟨rfl, rfl⟩
theorem getStack_any {w : World} : Calls Tryz.prog 106 #[] w fun e w' => e = .returned (.pointer (some ⟨w.heap.size, 0, none⟩)) ∧ w' = w.alloc (.cells #[.pointer none] 240) := by
  go_enter Tryz.func106, Tryz.ntmps106
  go_wp2_with fail
  go_ret
  exact ⟨rfl, rfl⟩
theorem free_any {w : World} {b : Nat} (h : Bk w b 240 [.pointer none]) : Calls Tryz.prog 107 #[.pointer (some ⟨b, 0, none⟩)] w fun e w' => e = .returned (.tuple #[]) ∧ w = w' := by
  have h0 : w.cell? ⟨b, 0, none⟩ = some (.pointer none) := by rw [h.cell]; rfl
  go_enter Tryz.func107, Tryz.ntmps107
  go_wp2_with fail
  go_end0
  exact ⟨rfl, rfl⟩
set_option maxRecDepth 100000 in
theorem intCmp_any {w : World} {a b : Nat} {va vc : Value} {X Y : List Int} (ha : IntB w a va X) (hb : IntB w b vc Y) (hne : a ≠ b) (h1 : 0 < X.length) (lX : X.length ≤ 10000) (lY : Y.length ≤ 10000) :
    Calls Tryz.prog 130 #[.pointer (some ⟨a, 0, none⟩), .pointer (some ⟨b, 0, none⟩)] w fun e w' => ∃ t, e = .returned (.int .i64 t) ∧ CmpIs X Y t ∧ ∃ m, w' = w.drewN m := by
  have he := eql83 (a := ⟨a, 0, none⟩) (b := ⟨b, 0, none⟩) ha.bk hb.bk (fun e => hne (congrArg Addr.block e))
  obtain ⟨aA, cA, rfl, hcA⟩ := ha.nv.form
  obtain ⟨aB, cB, rfl, hcB⟩ := hb.nv.form
  have e0 : ∀ n, (w.drewN n).cell? ⟨a, 0, none⟩ = some (.bool false) := fun n => ha.c.c0
  have e1 : ∀ n, (w.drewN n).cell? ⟨a, 1, none⟩ = some (.slice aA X.length cA) := fun n => ha.c.c1
  have e2 : ∀ n, (w.drewN n).cell? ⟨b, 0, none⟩ = some (.bool false) := fun n => hb.c.c0
  have e3 : ∀ n, (w.drewN n).cell? ⟨b, 1, none⟩ = some (.slice aB Y.length cB) := fun n => hb.c.c1
  have d0 : ∀ k n, ((w.drewN k).drewN n).cell? ⟨a, 0, none⟩ = some (.bool false) := fun k n => ha.c.c0
  have d1 : ∀ k n, ((w.drewN k).drewN n).cell? ⟨a, 1, none⟩ = some (.slice aA X.length cA) := fun k n => ha.c.c1
  have d3 : ∀ k n, ((w.drewN k).drewN n).cell? ⟨b, 1, none⟩ = some (.slice aB Y.length cB) := fun k n => hb.c.c1
  have f0 := e0 0
  have f1 := e1 0
  have f2 := e2 0
  have f3 := e3 0
  have HT : Hid (∀ k n, Calls Tryz.prog 176 #[.slice aA X.length cA, .slice aB Y.length cB] ((w.drewN k).drewN n) fun e w' => e = .returned (.int .i64 (cmpT (val X) (val Y))) ∧ ∃ m, w' = (w.drewN k).drewN m) := fun k n => by
    have f : Fr [] w ((w.drewN k).drewN n) := ((Fr.refl [] w).drewN k).drewN n
    refine (cmp_any (ha.nv.fr f (by simp)) (hb.nv.fr f (by simp)) ha.nm hb.nm h1 (by omega) (by omega)).mono ?_
    rintro e w' ⟨t, rfl, ht, m, rfl⟩
    rw [ht.eqT]
    exact ⟨rfl, n + m, by simp only [World.drewN_drewN, Nat.add_assoc]⟩
  have hci : CmpIs X Y (cmpT (val X) (val Y)) := by
    unfold cmpT CmpIs
    rcases Int.lt_trichotomy (val X) (val Y) with h | h | h
    · rw [if_pos h]; exact .inl ⟨rfl, h⟩
    · rw [if_neg (by omega), if_pos h]; exact .inr (.inl ⟨rfl, h⟩)
    · rw [if_neg (by omega), if_neg (by omega)]; exact .inr (.inr ⟨rfl, h⟩)
  have HCI := Lib.hid hci
  clear hci ha hb
  generalize hTe : cmpT (val X) (val Y) = T at *
  clear hTe
  go_enter Tryz.func130, Tryz.ntmps130
  go_upto_region 4 with (go_quiet (fail))
  have hT2 := HT.out nq
  have q1 := d1 nq
  have q3 := d3 nq
  have q0 := d0 nq
  have hE : ∀ m, ∃ m', (w.drewN nq).drewN m = w.drewN m' := fun m => ⟨nq + m, by simp only [World.drewN_drewN]⟩
  generalize w.drewN nq = wq at *
  have HT2 := Lib.hid hT2
  have HE := Lib.hid hE
  clear hT2 hE d0 d1 d3
  have q00 := q0 0
  go_wp2_with (go_quiet ((go_at_call 176; exact HT2.out _)))
  go_ret
  obtain ⟨m', hm'⟩ := HE.out nq
  exact ⟨T, rfl, HCI.out, m', hm'⟩
end Go.Proofs.YtfbbkngonohlkaaGreatDoor
/- The greatest common divisor of two Ints, one of them one word. -/
namespace Go.Proofs.YtfbbkngonohlkaaGreatDoor
open Go Go.RowKit
set_option linter.unusedVariables false
set_option linter.unusedSimpArgs false
set_option maxRecDepth 100000 in
set_option maxHeartbeats 400000 in
theorem lehmer_any {w : World} {zb xb xo yb yo : Nat} {nx ny : Bool} {vx vy : Value} {X Y : List Int} (hz : Bk w zb 110 [.bool false, .slice none 0 0]) (hx : IntC w xb xo nx vx X) (hy : IntC w yb yo ny vy Y) (nX : Nrm X) (nY : Nrm Y) (hX0 : 0 < X.length) (hY0 : 0 < Y.length) (h1 : X.length = 1 ∨ Y.length = 1) (lX : X.length ≤ 10000) (lY : Y.length ≤ 10000) {tx ty : TypeId} {cx cy : List Value} (kx : Bk w xb tx cx) (ky : Bk w yb ty cy) :
    Calls Tryz.prog 129 #[.pointer (some ⟨zb, 0, none⟩), .pointer none, .pointer none, .pointer (some ⟨xb, xo, none⟩), .pointer (some ⟨yb, yo, none⟩)] w fun e w' => ∃ v G, e = .returned (.pointer (some ⟨zb, 0, none⟩)) ∧ IntB w' zb v G ∧ val G = Int.gcd (val X) (val Y) ∧ Fr [zb] w w' ∧ (∀ b, b ∈ vb v → w.heap.size ≤ b) := by
  have HA1 : Hid (Calls Tryz.prog 175 #[.pointer (some ⟨w.heap.size, 0, none⟩), .pointer (some ⟨xb, xo, none⟩)] (w.alloc z110) fun e w' => ∃ v, e = .returned (.pointer (some ⟨w.heap.size, 0, none⟩)) ∧ Hid (Bk w' w.heap.size 110 [.bool false, v] ∧ NatV w' v X ∧ capOf v ≤ 9223372036854775807 ∧ Fr [w.heap.size] (w.alloc z110) w' ∧ (∀ b, b ∈ vb v → (w.alloc z110).heap.size ≤ b))) := by
    have f : Fr [] w (w.alloc z110) := (Fr.refl [] w).alloc _
    have := hx.lt
    refine (intAbs_new (Bk.new w 110 _) (hx.fr f (by simp) (by simp)) (kx.alloc _) (by omega) (fun h => by have := hx.nv.lt _ h; omega) (by omega)).mono ?_
    rintro e w' ⟨v, rfl, h⟩
    exact ⟨v, rfl, h⟩
  have HA2 : Hid (∀ w1, Fr [w.heap.size] (w.alloc z110) w1 → Hid (Calls Tryz.prog 175 #[.pointer (some ⟨w1.heap.size, 0, none⟩), .pointer (some ⟨yb, yo, none⟩)] (w1.alloc z110) fun e w' => ∃ v, e = .returned (.pointer (some ⟨w1.heap.size, 0, none⟩)) ∧ Hid (Bk w' w1.heap.size 110 [.bool false, v] ∧ NatV w' v Y ∧ capOf v ≤ 9223372036854775807 ∧ Fr [w1.heap.size] (w1.alloc z110) w' ∧ (∀ b, b ∈ vb v → (w1.alloc z110).heap.size ≤ b)))) := fun w1 hf => by
    have f : Fr [] w (w1.alloc z110) := (((Fr.refl [] w).alloc z110).trans hf (by simp)).alloc _
    have := hy.lt
    have s1 := (((Fr.refl [] w).alloc z110).trans hf (by simp) : Fr [] w w1).size
    refine (intAbs_new (Bk.new w1 110 _) (hy.fr f (by simp) (by simp)) (f.bk ky (by simp)) (by omega) (fun h => by have := hy.nv.lt _ h; omega) (by omega)).mono ?_
    rintro e w' ⟨v, rfl, h⟩
    exact ⟨v, rfl, h⟩
  have HZ := Lib.hid hz
  have HST : Hid (∀ (w1 w2 : World) vA vB, Hid (Bk w1 w.heap.size 110 [.bool false, vA] ∧ NatV w1 vA X ∧ capOf vA ≤ 9223372036854775807 ∧ Fr [w.heap.size] (w.alloc z110) w1 ∧ (∀ b, b ∈ vb vA → (w.alloc z110).heap.size ≤ b)) → Hid (Bk w2 w1.heap.size 110 [.bool false, vB] ∧ NatV w2 vB Y ∧ capOf vB ≤ 9223372036854775807 ∧ Fr [w1.heap.size] (w1.alloc z110) w2 ∧ (∀ b, b ∈ vb vB → (w1.alloc z110).heap.size ≤ b)) → LhSt w ((w2.alloc z110).alloc z110) w.heap.size w1.heap.size w2.heap.size (w2.heap.size + 1) vA vB X Y) := fun w1 w2 vA vB h k => by
    obtain ⟨q1, q2, q3, q4, q5⟩ := h.out
    obtain ⟨k1, k2, k3, k4, k5⟩ := k.out
    exact lh_start nX nY q1 q2 q3 q4 q5 k1 k2 k3 k4 k5
  have HN := Lib.hid (And.intro nX (And.intro nY h1))
  have HXC := Lib.hid (And.intro hx (And.intro hy (And.intro kx ky)))
  clear hz hx hy nX nY h1 kx ky
  go_enter Tryz.func129, Tryz.ntmps129
  go_upto_region 10 with (first | (have hh := hA; go_at_call 175; refine HA2'.out.mono ?_; rintro e w2 ⟨vB, rfl, hB⟩) | (go_at_call 175; refine HA1.out.mono ?_; rintro e w1 ⟨vA, rfl, hA⟩; have HA2' := HA2.out w1 hA.out.2.2.2.1))
  have hS := HST.out w1 w2 vA vB hA hB
  obtain ⟨aA, cA, rfl, hcA⟩ := hS.ip.nv.form
  obtain ⟨aB, cB, rfl, hcB⟩ := hS.is.nv.form
  have hc1 := hS.ip.c.c1
  have hc2 := hS.is.c.c1
  have HC : Hid (∀ n, Calls Tryz.prog 176 #[.slice aA X.length cA, .slice aB Y.length cB] (((w2.alloc z110).alloc z110).drewN n) fun e w' => e = .returned (.int .i64 (cmpT (val X) (val Y))) ∧ ∃ m, w' = ((w2.alloc z110).alloc z110).drewN m) := fun n => by
    refine (cmp_any (hS.drew n).ip.nv (hS.drew n).is.nv HN.out.1 HN.out.2.1 hX0 (by omega) (by omega)).mono ?_
    rintro e w' ⟨t, rfl, ht, m, rfl⟩
    rw [ht.eqT]
    exact ⟨rfl, n + m, by simp only [World.drewN_drewN]⟩
  have HS := Lib.hid hS
  clear hS hA hB HST HA1 HA2 HA2'
  generalize hW : (w2.alloc z110).alloc z110 = W3 at *
  have hW' : (w2.alloc (.cells #[.bool false, .slice none 0 0] 110)).alloc (.cells #[.bool false, .slice none 0 0] 110) = W3 := hW
  rw [hW']
  have hd1 : ∀ n, (W3.drewN n).cell? ⟨w.heap.size, 1, none⟩ = some (.slice aA X.length cA) := fun n => hc1
  have hd2 : ∀ n, (W3.drewN n).cell? ⟨w1.heap.size, 1, none⟩ = some (.slice aB Y.length cB) := fun n => hc2
  clear hW hW'
  generalize hT : cmpT (val X) (val Y) = T at *
  have HT := Lib.hid hT
  clear hT
  go_upto_if 60 with (go_quiet ((go_at_call 176; exact HC.out _)))
  have HLT : Hid (T < 0 → LhSt w (W3.drewN nq) w1.heap.size w.heap.size w2.heap.size (w2.heap.size + 1) (.slice aB Y.length cB) (.slice aA X.length cA) Y X ∧ val X ≤ val Y ∧ X.length = 1) := fun h => by
    have h2 := HT.out
    unfold cmpT at h2
    have h3 : val X < val Y := by
      by_cases hh : val X < val Y
      · exact hh
      · rw [if_neg hh] at h2; split at h2 <;> omega
    refine ⟨(HS.out.drew nq).swap, by omega, ?_⟩
    rcases HN.out.2.2 with h4 | h4
    · exact h4
    · have h5 := len_le_of_val HN.out.1 HS.out.ip.nv.ws (n := 1) (by have := val_lt HS.out.is.nv.ws; rw [h4] at this; omega)
      omega
  have HGE : Hid (0 ≤ T → LhSt w (W3.drewN nq) w.heap.size w1.heap.size w2.heap.size (w2.heap.size + 1) (.slice aA X.length cA) (.slice aB Y.length cB) X Y ∧ val Y ≤ val X ∧ Y.length = 1) := fun h => by
    have h2 := HT.out
    unfold cmpT at h2
    have h3 : val Y ≤ val X := by
      by_cases hh : val X < val Y
      · rw [if_pos hh] at h2; omega
      · omega
    refine ⟨HS.out.drew nq, h3, ?_⟩
    rcases HN.out.2.2 with h4 | h4
    · have h5 := len_le_of_val HN.out.2.1 HS.out.is.nv.ws (n := 1) (by have := val_lt HS.out.ip.nv.ws; rw [h4] at this; omega)
      omega
    · exact h4
  go_cut [11, 12, 13, 14] (fun a b ua ub wx => ∃ pb sb vP vS P S, a = .pointer (some ⟨pb, 0, none⟩) ∧ b = .pointer (some ⟨sb, 0, none⟩) ∧ ua = .pointer none ∧ ub = .pointer none ∧ LhSt w wx pb sb w2.heap.size (w2.heap.size + 1) vP vS P S ∧ val S ≤ val P ∧ S.length = 1 ∧ Hid ((P = X ∧ S = Y) ∨ (P = Y ∧ S = X)))
  case first =>
    rcases Int.lt_or_le T 0 with h | h
    · have hdd : decide (T < 0) = true := decide_eq_true h
      obtain ⟨g1, g2, g3⟩ := HLT.out h
      have G1 := Lib.hid g1
      clear g1
      go_wp2_with fail
      go_meet
      case rel => exact ⟨_, _, _, _, _, _, rfl, rfl, rfl, rfl, G1.out, g2, g3, .inr ⟨rfl, rfl⟩⟩
    · have hdd : decide (T < 0) = false := decide_eq_false (by omega)
      obtain ⟨g1, g2, g3⟩ := HGE.out h
      have G1 := Lib.hid g1
      clear g1
      go_wp2_with fail
      go_meet
      case rel => exact ⟨_, _, _, _, _, _, rfl, rfl, rfl, rfl, G1.out, g2, g3, .inl ⟨rfl, rfl⟩⟩
  case rest =>
    obtain ⟨pb, sb, vP, vS, P, S, rfl, rfl, rfl, rfl, hL, hle, hS1, hPS⟩ := hcut
    have HTL := @leh_tail w wc zb xb xo yb yo pb sb w2.heap.size (w2.heap.size + 1) nx ny vx vy vP vS X Y P S HZ HXC.out.1 HXC.out.2.1 lX lY hX0 hY0 hL hle hS1 hPS
    rename_i K hK
    exact hK _ _ HTL
end Go.Proofs.YtfbbkngonohlkaaGreatDoor
