/- Joined texts: Small1, Lehmer, Norm0, Norm1. -/
import Derived.Test.YtfbbkngonohlkaaGreatDoorLehTail
import Derived.LaidEqlPtr
import Derived.Deep.CutRange
import Derived.Deep.CutBlock
import Derived.Deep.DeepCutAuto
import Derived.Defers
import Derived.Deep.RegionWith
import Derived.Deep.RegionHeld3
import Derived.BigRegion
/- natFive, intOne, NewInt of nothing, newRat, getStack and its free. -/
namespace Go.Proofs.YtfbbkngonohlkaaGreatDoor
open Go Go.RowKit
set_option linter.unusedVariables false
set_option linter.unusedSimpArgs false
theorem NatAt.one (w : World) {x : Int} (hx : Wd x) : NatAt (w.alloc (.cells #[.int .u64 x] 162)) (.slice (some ⟨w.heap.size, 0, none⟩) 1 1) w.heap.size [x] :=
  ⟨162, [], rfl, Bk.new w 162 [.int .u64 x], Ws.single hx.1 hx.2⟩
theorem natFive_any {w : World} : Calls Tryz.prog 109 #[] w fun e w' => ∃ b, e = .returned (.slice (some ⟨b, 0, none⟩) 1 1) ∧ Hid (NatV w' (.slice (some ⟨b, 0, none⟩) 1 1) [5] ∧ w.heap.size ≤ b ∧ Fr [] w w') := by
  go_enter Tryz.func109, Tryz.ntmps109
  go_wp2_with fail
  go_ret
  exact ⟨_, rfl, (NatAt.one w ⟨by omega, by omega⟩).v, Nat.le_refl _, (Fr.refl _ _).alloc _⟩
theorem natOne_any {w : World} : Calls Tryz.prog 186 #[] w fun e w' => e = .returned (.slice (some ⟨w.heap.size, 0, none⟩) 1 1) ∧ w' = w.alloc (.cells #[.int .u64 1] 162) := by
  go_enter Tryz.func186, Tryz.ntmps186
  go_wp2_with fail
  go_ret
  exact ⟨rfl, rfl⟩
theorem intOne_any {w : World} : Calls Tryz.prog 131 #[] w fun e w' => ∃ b v, e = .returned (.pointer (some ⟨b, 0, none⟩)) ∧ Hid (IntB w' b v [1] ∧ w.heap.size ≤ b ∧ Fr [] w w') := by
  have HN := Lib.hid (natOne_any (w := w))
  go_enter Tryz.func131, Tryz.ntmps131
  go_wp2_with (go_at_call 186; refine HN.out.mono ?_; rintro e w1 ⟨rfl, rfl⟩)
  go_ret
  have h1 := (NatAt.one w (x := 1) ⟨by omega, by omega⟩).v
  refine ⟨_, .slice (some ⟨w.heap.size, 0, none⟩) 1 1, rfl, ⟨by have := Bk.new (w.alloc (.cells #[.int .u64 1] 162)) 110 [.bool false, .slice (some ⟨w.heap.size, 0, none⟩) 1 1]; rw [World.size_alloc] at this; exact this, h1.fr ((Fr.refl [] _).alloc _) (by simp), Nrm.single (by omega), by simp [capOf], by simp [vb]⟩, by simp, ((Fr.refl [] w).alloc _).alloc _⟩
theorem newInt_zero {w : World} : Calls Tryz.prog 128 #[.int .i64 0] w fun e w' => e = .returned (.pointer (some ⟨w.heap.size, 0, none⟩)) ∧ w' = w.alloc z110 := by
  go_enter Tryz.func128, Tryz.ntmps128
  go_wp2_with fail
  go_ret
  exact ⟨rfl, rfl⟩
theorem newRat_any {w : World} : Calls Tryz.prog 65 #[] w fun e w' => e = .returned (.pointer (some ⟨w.heap.size, 0, none⟩)) ∧ w' = w.alloc (.cells #[.bool false, .slice none 0 0, .bool false, .slice none 0 0] 160) := by
  go_enter Tryz.func65, Tryz.ntmps65
  go_wp2_with fail
  go_ret
  exact ⟨rfl, rfl⟩
theorem getStack_any {w : World} : Calls Tryz.prog 106 #[] w fun e w' => e = .returned (.pointer (some ⟨w.heap.size, 0, none⟩)) ∧ w' = w.alloc (.cells #[.pointer none] 240) := by
  go_enter Tryz.func106, Tryz.ntmps106
  go_wp2_with fail
  go_ret
  exact ⟨rfl, rfl⟩
theorem free_any {w : World} {b : Nat} (h : Bk w b 240 [.pointer none]) : Calls Tryz.prog 107 #[.pointer (some ⟨b, 0, none⟩)] w fun e w' => e = .returned (.tuple #[]) ∧ w = w' := by
  have h0 : w.cell? ⟨b, 0, none⟩ = some (.pointer none) := by rw [h.cell]; rfl
  go_enter Tryz.func107, Tryz.ntmps107
  go_wp2_with fail
  go_end0
  exact ⟨rfl, rfl⟩
set_option maxRecDepth 100000 in
theorem intCmp_any {w : World} {a b : Nat} {va vc : Value} {X Y : List Int} (ha : IntB w a va X) (hb : IntB w b vc Y) (hne : a ≠ b) (h1 : 0 < X.length) (lX : X.length ≤ 10000) (lY : Y.length ≤ 10000) :
    Calls Tryz.prog 130 #[.pointer (some ⟨a, 0, none⟩), .pointer (some ⟨b, 0, none⟩)] w fun e w' => ∃ t, e = .returned (.int .i64 t) ∧ CmpIs X Y t ∧ ∃ m, w' = w.drewN m := by
  have he := eql83 (a := ⟨a, 0, none⟩) (b := ⟨b, 0, none⟩) ha.bk hb.bk (fun e => hne (congrArg Addr.block e))
  obtain ⟨aA, cA, rfl, hcA⟩ := ha.nv.form
  obtain ⟨aB, cB, rfl, hcB⟩ := hb.nv.form
  have e0 : ∀ n, (w.drewN n).cell? ⟨a, 0, none⟩ = some (.bool false) := fun n => ha.c.c0
  have e1 : ∀ n, (w.drewN n).cell? ⟨a, 1, none⟩ = some (.slice aA X.length cA) := fun n => ha.c.c1
  have e2 : ∀ n, (w.drewN n).cell? ⟨b, 0, none⟩ = some (.bool false) := fun n => hb.c.c0
  have e3 : ∀ n, (w.drewN n).cell? ⟨b, 1, none⟩ = some (.slice aB Y.length cB) := fun n => hb.c.c1
  have d0 : ∀ k n, ((w.drewN k).drewN n).cell? ⟨a, 0, none⟩ = some (.bool false) := fun k n => ha.c.c0
  have d1 : ∀ k n, ((w.drewN k).drewN n).cell? ⟨a, 1, none⟩ = some (.slice aA X.length cA) := fun k n => ha.c.c1
  have d3 : ∀ k n, ((w.drewN k).drewN n).cell? ⟨b, 1, none⟩ = some (.slice aB Y.length cB) := fun k n => hb.c.c1
  have f0 := e0 0
  have f1 := e1 0
  have f2 := e2 0
  have f3 := e3 0
  have HT : Hid (∀ k n, Calls Tryz.prog 176 #[.slice aA X.length cA, .slice aB Y.length cB] ((w.drewN k).drewN n) fun e w' => e = .returned (.int .i64 (cmpT (val X) (val Y))) ∧ ∃ m, w' = (w.drewN k).drewN m) := fun k n => by
    have f : Fr [] w ((w.drewN k).drewN n) := ((Fr.refl [] w).drewN k).drewN n
    refine (cmp_any (ha.nv.fr f (by simp)) (hb.nv.fr f (by simp)) ha.nm hb.nm h1 (by omega) (by omega)).mono ?_
    rintro e w' ⟨t, rfl, ht, m, rfl⟩
    rw [ht.eqT]
    exact ⟨rfl, n + m, by simp only [World.drewN_drewN, Nat.add_assoc]⟩
  have hci : CmpIs X Y (cmpT (val X) (val Y)) := by
    unfold cmpT CmpIs
    rcases Int.lt_trichotomy (val X) (val Y) with h | h | h
    · rw [if_pos h]; exact .inl ⟨rfl, h⟩
    · rw [if_neg (by omega), if_pos h]; exact .inr (.inl ⟨rfl, h⟩)
    · rw [if_neg (by omega), if_neg (by omega)]; exact .inr (.inr ⟨rfl, h⟩)
  have HCI := Lib.hid hci
  clear hci ha hb
  generalize hTe : cmpT (val X) (val Y) = T at *
  clear hTe
  go_enter Tryz.func130, Tryz.ntmps130
  go_upto_region 4 with (go_quiet (fail))
  have hT2 := HT.out nq
  have q1 := d1 nq
  have q3 := d3 nq
  have q0 := d0 nq
  have hE : ∀ m, ∃ m', (w.drewN nq).drewN m = w.drewN m' := fun m => ⟨nq + m, by simp only [World.drewN_drewN]⟩
  generalize w.drewN nq = wq at *
  have HT2 := Lib.hid hT2
  have HE := Lib.hid hE
  clear hT2 hE d0 d1 d3
  have q00 := q0 0
  go_wp2_with (go_quiet ((go_at_call 176; exact HT2.out _)))
  go_ret
  obtain ⟨m', hm'⟩ := HE.out nq
  exact ⟨T, rfl, HCI.out, m', hm'⟩
end Go.Proofs.YtfbbkngonohlkaaGreatDoor
/- The greatest common divisor of two Ints, one of them one word. -/
namespace Go.Proofs.YtfbbkngonohlkaaGreatDoor
open Go Go.RowKit
set_option linter.unusedVariables false
set_option linter.unusedSimpArgs false
set_option maxRecDepth 100000 in
set_option maxHeartbeats 400000 in
theorem lehmer_any {w : World} {zb xb xo yb yo : Nat} {nx ny : Bool} {vx vy : Value} {X Y : List Int} (hz : Bk w zb 110 [.bool false, .slice none 0 0]) (hx : IntC w xb xo nx vx X) (hy : IntC w yb yo ny vy Y) (nX : Nrm X) (nY : Nrm Y) (hX0 : 0 < X.length) (hY0 : 0 < Y.length) (h1 : X.length = 1 ∨ Y.length = 1) (lX : X.length ≤ 10000) (lY : Y.length ≤ 10000) {tx ty : TypeId} {cx cy : List Value} (kx : Bk w xb tx cx) (ky : Bk w yb ty cy) :
    Calls Tryz.prog 129 #[.pointer (some ⟨zb, 0, none⟩), .pointer none, .pointer none, .pointer (some ⟨xb, xo, none⟩), .pointer (some ⟨yb, yo, none⟩)] w fun e w' => ∃ v G, e = .returned (.pointer (some ⟨zb, 0, none⟩)) ∧ IntB w' zb v G ∧ val G = Int.gcd (val X) (val Y) ∧ Fr [zb] w w' ∧ (∀ b, b ∈ vb v → w.heap.size ≤ b) := by
  have HA1 : Hid (Calls Tryz.prog 175 #[.pointer (some ⟨w.heap.size, 0, none⟩), .pointer (some ⟨xb, xo, none⟩)] (w.alloc z110) fun e w' => ∃ v, e = .returned (.pointer (some ⟨w.heap.size, 0, none⟩)) ∧ Hid (Bk w' w.heap.size 110 [.bool false, v] ∧ NatV w' v X ∧ capOf v ≤ 9223372036854775807 ∧ Fr [w.heap.size] (w.alloc z110) w' ∧ (∀ b, b ∈ vb v → (w.alloc z110).heap.size ≤ b))) := by
    have f : Fr [] w (w.alloc z110) := (Fr.refl [] w).alloc _
    have := hx.lt
    refine (intAbs_new (Bk.new w 110 _) (hx.fr f (by simp) (by simp)) (kx.alloc _) (by omega) (fun h => by have := hx.nv.lt _ h; omega) (by omega)).mono ?_
    rintro e w' ⟨v, rfl, h⟩
    exact ⟨v, rfl, h⟩
  have HA2 : Hid (∀ w1, Fr [w.heap.size] (w.alloc z110) w1 → Hid (Calls Tryz.prog 175 #[.pointer (some ⟨w1.heap.size, 0, none⟩), .pointer (some ⟨yb, yo, none⟩)] (w1.alloc z110) fun e w' => ∃ v, e = .returned (.pointer (some ⟨w1.heap.size, 0, none⟩)) ∧ Hid (Bk w' w1.heap.size 110 [.bool false, v] ∧ NatV w' v Y ∧ capOf v ≤ 9223372036854775807 ∧ Fr [w1.heap.size] (w1.alloc z110) w' ∧ (∀ b, b ∈ vb v → (w1.alloc z110).heap.size ≤ b)))) := fun w1 hf => by
    have f : Fr [] w (w1.alloc z110) := (((Fr.refl [] w).alloc z110).trans hf (by simp)).alloc _
    have := hy.lt
    have s1 := (((Fr.refl [] w).alloc z110).trans hf (by simp) : Fr [] w w1).size
    refine (intAbs_new (Bk.new w1 110 _) (hy.fr f (by simp) (by simp)) (f.bk ky (by simp)) (by omega) (fun h => by have := hy.nv.lt _ h; omega) (by omega)).mono ?_
    rintro e w' ⟨v, rfl, h⟩
    exact ⟨v, rfl, h⟩
  have HZ := Lib.hid hz
  have HST : Hid (∀ (w1 w2 : World) vA vB, Hid (Bk w1 w.heap.size 110 [.bool false, vA] ∧ NatV w1 vA X ∧ capOf vA ≤ 9223372036854775807 ∧ Fr [w.heap.size] (w.alloc z110) w1 ∧ (∀ b, b ∈ vb vA → (w.alloc z110).heap.size ≤ b)) → Hid (Bk w2 w1.heap.size 110 [.bool false, vB] ∧ NatV w2 vB Y ∧ capOf vB ≤ 9223372036854775807 ∧ Fr [w1.heap.size] (w1.alloc z110) w2 ∧ (∀ b, b ∈ vb vB → (w1.alloc z110).heap.size ≤ b)) → LhSt w ((w2.alloc z110).alloc z110) w.heap.size w1.heap.size w2.heap.size (w2.heap.size + 1) vA vB X Y) := fun w1 w2 vA vB h k => by
    obtain ⟨q1, q2, q3, q4, q5⟩ := h.out
    obtain ⟨k1, k2, k3, k4, k5⟩ := k.out
    exact lh_start nX nY q1 q2 q3 q4 q5 k1 k2 k3 k4 k5
  have HN := Lib.hid (And.intro nX (And.intro nY h1))
  have HXC := Lib.hid (And.intro hx (And.intro hy (And.intro kx ky)))
  clear hz hx hy nX nY h1 kx ky
  go_enter Tryz.func129, Tryz.ntmps129
  go_upto_region 10 with (first | (have hh := hA; go_at_call 175; refine HA2'.out.mono ?_; rintro e w2 ⟨vB, rfl, hB⟩) | (go_at_call 175; refine HA1.out.mono ?_; rintro e w1 ⟨vA, rfl, hA⟩; have HA2' := HA2.out w1 hA.out.2.2.2.1))
  have hS := HST.out w1 w2 vA vB hA hB
  obtain ⟨aA, cA, rfl, hcA⟩ := hS.ip.nv.form
  obtain ⟨aB, cB, rfl, hcB⟩ := hS.is.nv.form
  have hc1 := hS.ip.c.c1
  have hc2 := hS.is.c.c1
  have HC : Hid (∀ n, Calls Tryz.prog 176 #[.slice aA X.length cA, .slice aB Y.length cB] (((w2.alloc z110).alloc z110).drewN n) fun e w' => e = .returned (.int .i64 (cmpT (val X) (val Y))) ∧ ∃ m, w' = ((w2.alloc z110).alloc z110).drewN m) := fun n => by
    refine (cmp_any (hS.drew n).ip.nv (hS.drew n).is.nv HN.out.1 HN.out.2.1 hX0 (by omega) (by omega)).mono ?_
    rintro e w' ⟨t, rfl, ht, m, rfl⟩
    rw [ht.eqT]
    exact ⟨rfl, n + m, by simp only [World.drewN_drewN]⟩
  have HS := Lib.hid hS
  clear hS hA hB HST HA1 HA2 HA2'
  generalize hW : (w2.alloc z110).alloc z110 = W3 at *
  have hW' : (w2.alloc (.cells #[.bool false, .slice none 0 0] 110)).alloc (.cells #[.bool false, .slice none 0 0] 110) = W3 := hW
  rw [hW']
  have hd1 : ∀ n, (W3.drewN n).cell? ⟨w.heap.size, 1, none⟩ = some (.slice aA X.length cA) := fun n => hc1
  have hd2 : ∀ n, (W3.drewN n).cell? ⟨w1.heap.size, 1, none⟩ = some (.slice aB Y.length cB) := fun n => hc2
  clear hW hW'
  generalize hT : cmpT (val X) (val Y) = T at *
  have HT := Lib.hid hT
  clear hT
  go_upto_if 60 with (go_quiet ((go_at_call 176; exact HC.out _)))
  have HLT : Hid (T < 0 → LhSt w (W3.drewN nq) w1.heap.size w.heap.size w2.heap.size (w2.heap.size + 1) (.slice aB Y.length cB) (.slice aA X.length cA) Y X ∧ val X ≤ val Y ∧ X.length = 1) := fun h => by
    have h2 := HT.out
    unfold cmpT at h2
    have h3 : val X < val Y := by
      by_cases hh : val X < val Y
      · exact hh
      · rw [if_neg hh] at h2; split at h2 <;> omega
    refine ⟨(HS.out.drew nq).swap, by omega, ?_⟩
    rcases HN.out.2.2 with h4 | h4
    · exact h4
    · have h5 := len_le_of_val HN.out.1 HS.out.ip.nv.ws (n := 1) (by have := val_lt HS.out.is.nv.ws; rw [h4] at this; omega)
      omega
  have HGE : Hid (0 ≤ T → LhSt w (W3.drewN nq) w.heap.size w1.heap.size w2.heap.size (w2.heap.size + 1) (.slice aA X.length cA) (.slice aB Y.length cB) X Y ∧ val Y ≤ val X ∧ Y.length = 1) := fun h => by
    have h2 := HT.out
    unfold cmpT at h2
    have h3 : val Y ≤ val X := by
      by_cases hh : val X < val Y
      · rw [if_pos hh] at h2; omega
      · omega
    refine ⟨HS.out.drew nq, h3, ?_⟩
    rcases HN.out.2.2 with h4 | h4
    · have h5 := len_le_of_val HN.out.2.1 HS.out.is.nv.ws (n := 1) (by have := val_lt HS.out.ip.nv.ws; rw [h4] at this; omega)
      omega
    · exact h4
  go_cut [11, 12, 13, 14] (fun a b ua ub wx => ∃ pb sb vP vS P S, a = .pointer (some ⟨pb, 0, none⟩) ∧ b = .pointer (some ⟨sb, 0, none⟩) ∧ ua = .pointer none ∧ ub = .pointer none ∧ LhSt w wx pb sb w2.heap.size (w2.heap.size + 1) vP vS P S ∧ val S ≤ val P ∧ S.length = 1 ∧ Hid ((P = X ∧ S = Y) ∨ (P = Y ∧ S = X)))
  case first =>
    rcases Int.lt_or_le T 0 with h | h
    · have hdd : decide (T < 0) = true := decide_eq_true h
      obtain ⟨g1, g2, g3⟩ := HLT.out h
      have G1 := Lib.hid g1
      clear g1
      go_wp2_with fail
      go_meet
      case rel => exact ⟨_, _, _, _, _, _, rfl, rfl, rfl, rfl, G1.out, g2, g3, .inr ⟨rfl, rfl⟩⟩
    · have hdd : decide (T < 0) = false := decide_eq_false (by omega)
      obtain ⟨g1, g2, g3⟩ := HGE.out h
      have G1 := Lib.hid g1
      clear g1
      go_wp2_with fail
      go_meet
      case rel => exact ⟨_, _, _, _, _, _, rfl, rfl, rfl, rfl, G1.out, g2, g3, .inl ⟨rfl, rfl⟩⟩
  case rest =>
    obtain ⟨pb, sb, vP, vS, P, S, rfl, rfl, rfl, rfl, hL, hle, hS1, hPS⟩ := hcut
    have HTL := @leh_tail w wc zb xb xo yb yo pb sb w2.heap.size (w2.heap.size + 1) nx ny vx vy vP vS X Y P S HZ HXC.out.1 HXC.out.2.1 lX lY hX0 hY0 hL hle hS1 hPS
    rename_i K hK
    exact hK _ _ HTL
end Go.Proofs.YtfbbkngonohlkaaGreatDoor
/- Rat.norm of nothing. -/
namespace Go.Proofs.YtfbbkngonohlkaaGreatDoor
open Go Go.RowKit
set_option linter.unusedVariables false
set_option linter.unusedSimpArgs false
/-- The Rat in block rb. -/
structure RatB (w : World) (rb : Nat) (na nb : Bool) (va vb' : Value) (A B : List Int) : Prop where
  bk : Bk w rb 160 [.bool na, va, .bool nb, vb']
  av : NatV w va A
  bv : NatV w vb' B
  an : Nrm A
  bn : Nrm B
  apa : rb ∉ vb va
  apb : rb ∉ vb vb'
  dj : ∀ k, k ∈ vb va → k ∉ vb vb'
  ca : capOf va ≤ 9223372036854775807
  cb : capOf vb' ≤ 9223372036854775807
set_option maxRecDepth 100000 in
theorem norm_zero {w : World} {rb : Nat} {na nb : Bool} {va vb' : Value} {B : List Int} (h : RatB w rb na nb va vb' [] B) :
    Calls Tryz.prog 88 #[.pointer (some ⟨rb, 0, none⟩)] w fun e w' => ∃ vb2, e = .returned (.pointer (some ⟨rb, 0, none⟩)) ∧ RatB w' rb false nb va vb2 [] [1] ∧ Fr (rb :: vb vb') w w' := by
  obtain ⟨aA, cA, rfl, hcA⟩ := h.av.form
  obtain ⟨aB, cB, rfl, hcB⟩ := h.bv.form
  have c1 : w.cell? ⟨rb, 1, none⟩ = some (.slice aA 0 cA) := by rw [h.bk.cell]; rfl
  have c3 : w.cell? ⟨rb, 3, none⟩ = some (.slice aB B.length cB) := by rw [h.bk.cell]; rfl
  have c0 : w.cell? ⟨rb, 0, none⟩ = some (.bool na) := by rw [h.bk.cell]; rfl
  have f0 := h.bk.free 0
  have f3 := h.bk.free 3
  have H := Lib.hid h
  have HS := Lib.hid (setWord_any (x := 1) (h.bv.fr (S := [rb]) ((Fr.refl [rb] w).set ⟨rb, 0, none⟩ (.bool false) (by simp)) (fun k hk hm => by have := h.apb; simp at hm; subst hm; exact this hk)) ⟨by omega, by omega⟩)
  clear h
  have HK : Hid (∀ w1 (v : World), Fr (vb (.slice aB B.length cB)) (w.setCell ⟨rb, 0, none⟩ (.bool false)) w1 → Hid (Bk w1 rb 160 [.bool false, .slice aA 0 cA, .bool nb, .slice aB B.length cB]) ∧ w1.cell? ⟨rb, 3, none⟩ = some (.slice aB B.length cB) ∧ w1.frozen? ⟨rb, 3, none⟩ = false) := fun w1 v hf => by
    have h1 := hf.bk (H.out.bk.set 0 (.bool false)) H.out.apb
    exact ⟨h1, by rw [h1.cell]; rfl, h1.free 3⟩
  go_enter_defers Tryz.func88, Tryz.ntmps88
  go_wp2_with (go_at_call 110; refine HS.out.mono ?_; rintro e w1 ⟨v, l, rfl, h1⟩; have hform := h1.1.form; obtain ⟨a1, c1', rfl, hc1'⟩ := hform; have hk := HK.out w1 w1 h1.2.2.2.1; obtain ⟨k0, k1, k2⟩ := hk; have h1 := Lib.hid h1)
  obtain ⟨g1, g2, g3, g4, g5, g6⟩ := h1.out
  have hlt := H.out.bk.lt
  have hl1 : l = [1] := nrm_inj g2 (Nrm.single (by omega)) g1.ws (Ws.single (by omega) (by omega)) (by rw [g3, val_single])
  have hb2 := k0.out.set 3 (.slice a1 l.length c1')
  have hsz : (w.setCell ⟨rb, 0, none⟩ (.bool false)).heap.size = w.heap.size := World.size_setCell ..
  have hrb : ∀ k, k ∈ vb (.slice a1 l.length c1') → k ≠ rb ∧ k ∉ vb (.slice aA 0 cA) := fun k hk => by
    rcases g5 k hk with h | h
    · exact ⟨fun e => by subst e; exact H.out.apb h, fun e => H.out.dj k e h⟩
    · rw [hsz] at h
      exact ⟨by omega, fun e => by have := H.out.av.lt k e; omega⟩
  have hav : NatV (w1.setCell ⟨rb, 3, none⟩ (.slice a1 l.length c1')) (.slice aA 0 cA) [] := by
    have h5 := H.out.av.fr (S := [rb]) ((Fr.refl [rb] w).set ⟨rb, 0, none⟩ (.bool false) (by simp)) (fun k hk hm => by have := H.out.apa; simp at hm; subst hm; exact this hk)
    have h6 := h5.fr g4 (fun k hk => H.out.dj k hk)
    exact h6.fr (S := [rb]) ((Fr.refl [rb] w1).set _ _ (by simp)) (fun k hk hm => by have := H.out.apa; simp at hm; subst hm; exact this hk)
  have hbv : NatV (w1.setCell ⟨rb, 3, none⟩ (.slice a1 l.length c1')) (.slice a1 l.length c1') [1] := by
    rw [← hl1]
    exact g1.fr (S := [rb]) ((Fr.refl [rb] w1).set _ _ (by simp)) (fun k hk hm => by have := (hrb k hk).1; simp at hm; exact this hm)
  refine ⟨_, results_tmp rfl _ _ _, .slice a1 l.length c1', rfl, ⟨hb2, hav, hbv, Nrm.nil, Nrm.single (by omega), H.out.apa, fun h => (hrb _ h).1 rfl, fun k hk hk2 => (hrb k hk2).2 hk, H.out.ca, g6 H.out.cb⟩, ?_⟩
  exact (((Fr.refl (rb :: vb (.slice aB B.length cB)) w).set _ _ (by simp)).trans g4 (fun x hx => .inl (List.mem_cons_of_mem _ hx))).set _ _ (by simp)
end Go.Proofs.YtfbbkngonohlkaaGreatDoor
/- Rat.norm of a fraction, one of its numbers one word. -/
namespace Go.Proofs.YtfbbkngonohlkaaGreatDoor
open Go Go.RowKit
set_option linter.unusedVariables false
set_option linter.unusedSimpArgs false
theorem free_d {w : World} {b : Nat} (u : FrameMode) (h : Bk w b 240 [.pointer none]) : CallsD Tryz.prog 107 #[.pointer (some ⟨b, 0, none⟩)] u w fun e u' w' => u' = u ∧ (e = .returned (.tuple #[]) ∧ w' = w) := by
  have h0 : w.cell? ⟨b, 0, none⟩ = some (.pointer none) := by rw [h.cell]; rfl
  go_enter_d Tryz.func107, Tryz.ntmps107
  go_wp2
  go_end0
  exact ⟨rfl, rfl⟩
theorem RatB.ca' {w : World} {rb : Nat} {na nb : Bool} {va vb' : Value} {A B : List Int} (h : RatB w rb na nb va vb' A B) : IntC w rb 0 na va A :=
  ⟨by rw [h.bk.cell]; rfl, by rw [h.bk.cell]; rfl, h.av, h.bk.lt, h.apa⟩
theorem RatB.cb' {w : World} {rb : Nat} {na nb : Bool} {va vb' : Value} {A B : List Int} (h : RatB w rb na nb va vb' A B) : IntC w rb 2 nb vb' B :=
  ⟨by rw [h.bk.cell]; rfl, by rw [h.bk.cell]; rfl, h.bv, h.bk.lt, h.apb⟩
theorem RatB.fr {S : List Nat} {w w' : World} {rb : Nat} {na nb : Bool} {va vb' : Value} {A B : List Int} (h : RatB w rb na nb va vb' A B) (hf : Fr S w w') (h1 : rb ∉ S) (h2 : ∀ k, k ∈ vb va → k ∉ S) (h3 : ∀ k, k ∈ vb vb' → k ∉ S) : RatB w' rb na nb va vb' A B :=
  ⟨hf.bk h.bk h1, h.av.fr hf h2, h.bv.fr hf h3, h.an, h.bn, h.apa, h.apb, h.dj, h.ca, h.cb⟩
theorem RatB.setN {w : World} {rb : Nat} {na nb : Bool} {va vb' : Value} {A B : List Int} (h : RatB w rb na nb va vb' A B) (n : Bool) : RatB (w.setCell ⟨rb, 0, none⟩ (.bool n)) rb n nb va vb' A B := by
  have f : Fr [rb] w (w.setCell ⟨rb, 0, none⟩ (.bool n)) := (Fr.refl [rb] w).set _ _ (by simp)
  exact ⟨h.bk.set 0 _, h.av.fr f (fun k hk hm => by have := h.apa; simp at hm; subst hm; exact this hk), h.bv.fr f (fun k hk hm => by have := h.apb; simp at hm; subst hm; exact this hk), h.an, h.bn, h.apa, h.apb, h.dj, h.ca, h.cb⟩
theorem RatB.setD {w : World} {rb : Nat} {na nb : Bool} {va vb' : Value} {A B : List Int} (h : RatB w rb na nb va vb' A B) (n : Bool) : RatB (w.setCell ⟨rb, 2, none⟩ (.bool n)) rb na n va vb' A B := by
  have f : Fr [rb] w (w.setCell ⟨rb, 2, none⟩ (.bool n)) := (Fr.refl [rb] w).set _ _ (by simp)
  exact ⟨h.bk.set 2 _, h.av.fr f (fun k hk hm => by have := h.apa; simp at hm; subst hm; exact this hk), h.bv.fr f (fun k hk hm => by have := h.apb; simp at hm; subst hm; exact this hk), h.an, h.bn, h.apa, h.apb, h.dj, h.ca, h.cb⟩
set_option maxRecDepth 100000 in
set_option maxHeartbeats 1000000 in
theorem norm_one {w : World} {rb : Nat} {va vb' : Value} {A B : List Int} (h : RatB w rb false false va vb' A B) (hA0 : 0 < A.length) (hB0 : 0 < B.length) (h1 : A.length = 1 ∨ B.length = 1) (lA : A.length ≤ 10000) (lB : B.length ≤ 10000) (hg : Int.gcd (val A) (val B) = 1) :
    Calls Tryz.prog 88 #[.pointer (some ⟨rb, 0, none⟩)] w fun e w' => e = .returned (.pointer (some ⟨rb, 0, none⟩)) ∧ RatB w' rb false false va vb' A B ∧ Fr [rb] w w' := by
  obtain ⟨aA, cA, rfl, hcA⟩ := h.av.form
  obtain ⟨aB, cB, rfl, hcB⟩ := h.bv.form
  have c0 : w.cell? ⟨rb, 0, none⟩ = some (.bool false) := by rw [h.bk.cell]; rfl
  have c1 : w.cell? ⟨rb, 1, none⟩ = some (.slice aA A.length cA) := by rw [h.bk.cell]; rfl
  have c2 : w.cell? ⟨rb, 2, none⟩ = some (.bool false) := by rw [h.bk.cell]; rfl
  have c3 : w.cell? ⟨rb, 3, none⟩ = some (.slice aB B.length cB) := by rw [h.bk.cell]; rfl
  have fz := h.bk.free
  have f0 := fz 0
  have f2 := fz 2
  have q1 : ((A.length : Int) == 0) = false := beq_eq_false_iff_ne.2 (by omega)
  have q2 : ((B.length : Int) == 0) = false := beq_eq_false_iff_ne.2 (by omega)
  have HS := Lib.hid (getStack_any (w := w))
  have HN : Hid (∀ u : World, Calls Tryz.prog 128 #[.int .i64 0] u fun e w' => e = .returned (.pointer (some ⟨u.heap.size, 0, none⟩)) ∧ w' = u.alloc z110) := fun u => newInt_zero
  have hR1 : RatB (w.alloc (.cells #[.pointer none] 240)) rb false false (.slice aA A.length cA) (.slice aB B.length cB) A B := h.fr ((Fr.refl [] w).alloc _) (by simp) (by simp) (by simp)
  have hR2 := (hR1.setN false).setD false
  have d0 : (w.alloc (.cells #[.pointer none] 240)).cell? ⟨rb, 0, none⟩ = some (.bool false) := by rw [hR1.bk.cell]; rfl
  have d2 : (w.alloc (.cells #[.pointer none] 240)).cell? ⟨rb, 2, none⟩ = some (.bool false) := by rw [hR1.bk.cell]; rfl
  have g0 := hR1.bk.free 0
  have g2 := hR1.bk.free 2
  have hlt := h.bk.lt
  have fW : Fr [rb] w (((w.alloc (.cells #[.pointer none] 240)).setCell ⟨rb, 0, none⟩ (.bool false)).setCell ⟨rb, 2, none⟩ (.bool false)) := (((Fr.refl [rb] w).alloc _).set _ _ (by simp)).set _ _ (by simp)
  have hst : Bk (((w.alloc (.cells #[.pointer none] 240)).setCell ⟨rb, 0, none⟩ (.bool false)).setCell ⟨rb, 2, none⟩ (.bool false)) w.heap.size 240 [.pointer none] := ((Bk.new w 240 _).set_ne _ _ (by simp; omega)).set_ne _ _ (by simp; omega)
  have H := Lib.hid (And.intro hR2 (And.intro fW hst))
  clear h fz hR1 hR2 fW hst hlt
  go_enter_defers Tryz.func88, Tryz.ntmps88
  go_upto_region 10 with (go_at_call 106; refine HS.out.mono ?_; rintro e w1 ⟨rfl, rfl⟩)
  generalize hW : ((w.alloc (.cells #[.pointer none] 240)).setCell ⟨rb, 0, none⟩ (.bool false)).setCell ⟨rb, 2, none⟩ (.bool false) = W2 at *
  clear hW
  have HL : Hid (∀ u, Fr [] W2 u → Hid (Calls Tryz.prog 129 #[.pointer (some ⟨u.heap.size, 0, none⟩), .pointer none, .pointer none, .pointer (some ⟨rb, 0, none⟩), .pointer (some ⟨rb, 2, none⟩)] (u.alloc z110) fun e w' => ∃ v G zb, e = .returned (.pointer (some ⟨zb, 0, none⟩)) ∧ Hid (IntB w' zb v G ∧ val G = Int.gcd (val A) (val B) ∧ Fr [] W2 w' ∧ W2.heap.size ≤ zb ∧ (∀ b, b ∈ vb v → W2.heap.size ≤ b)))) := fun u hu => by
    obtain ⟨r2, _, _⟩ := H.out
    have hR := r2.fr (hu.alloc z110) (by simp) (by simp) (by simp)
    have hb := hR.bk
    refine (lehmer_any (Bk.new u 110 _) hR.ca' hR.cb' hR.an hR.bn hA0 hB0 h1 lA lB hb hb).mono ?_
    rintro e w' ⟨v, G, rfl, q1, q2, q3, q4⟩
    have hs := hu.size
    exact ⟨v, G, _, rfl, q1, q2, (hu.alloc z110).trans q3 (fun x hx => by simp at hx; subst hx; exact .inr hs), hs, fun b hb => by have := q4 b hb; simp at this; omega⟩
  have HKS : Hid (∀ u, Fr [] W2 u → u.cell? ⟨rb, 0, none⟩ = some (.bool false)) := fun u hu => by
    have hR := H.out.1.fr hu (by simp) (by simp) (by simp)
    rw [hR.bk.cell]; rfl
  go_region_held3 (fun u => u.cell? ⟨rb, 0, none⟩ = some (.bool false)) (first | exact HKS.out _ h3.out.2.2.1 | with_reducible exact HKS.out _ (Fr.refl _ _) | with_reducible exact HKS.out _ (Fr.refl _ _).drew | with_reducible exact HKS.out _ ((Fr.refl _ _).drew.alloc _) | with_reducible exact HKS.out _ ((Fr.refl _ _).alloc _) | with_reducible exact HKS.out _ ((Fr.refl _ _).alloc _).drew) (first | (have hh := hz; go_at_call 129; refine (HL.out _ (by first | exact (Fr.refl _ _).drew | exact Fr.refl _ _)).out.mono ?_; rintro e w3 ⟨v3, G, zb, rfl, h3⟩) | (go_at_call 128; refine (HN.out _).mono ?_; rintro e w2 ⟨rfl, rfl⟩; have hz := trivial))
  all_goals
    have hG1 : G = [1] := by
      obtain ⟨q1, q2, _⟩ := h3.out
      exact nrm_inj q1.nm (Nrm.single (by omega)) q1.nv.ws (Ws.single (by omega) (by omega)) (by rw [q2, hg, val_single]; rfl)
    subst hG1
    have HO := Lib.hid (intOne_any (w := w3))
    have HCM : Hid (∀ (w4 : World) ob vo, Hid (IntB w4 ob vo [1] ∧ w3.heap.size ≤ ob ∧ Fr [] w3 w4) → Hid (Calls Tryz.prog 130 #[.pointer (some ⟨zb, 0, none⟩), .pointer (some ⟨ob, 0, none⟩)] w4 fun e w' => e = .returned (.int .i64 0) ∧ ∃ m, w' = w4.drewN m)) := fun w4 ob vo hh => by
      obtain ⟨k1, k2, k3⟩ := hh.out
      have hl := h3.out.1.bk.lt
      refine (intCmp_any (h3.out.1.fr k3 (by simp) (by simp)) k1 (by omega) (by simp) (by simp) (by simp)).mono ?_
      rintro e w' ⟨t, rfl, ht, hm⟩
      have : t = 0 := by rcases ht with ⟨rfl, h⟩ | ⟨rfl, h⟩ | ⟨rfl, h⟩ <;> omega
      subst this
      exact ⟨rfl, hm⟩
    have HKX : Hid (∀ (w4 : World) m, Fr [] w3 w4 → (w4.drewN m).cell? ⟨rb, 0, none⟩ = some (.bool false) ∧ (w4.drewN m).frozen? ⟨rb, 0, none⟩ = false ∧ Hid (RatB (w4.drewN m) rb false false (.slice aA A.length cA) (.slice aB B.length cB) A B ∧ Bk (w4.drewN m) w.heap.size 240 [.pointer none])) := fun w4 m hf => by
      have f : Fr [] W2 (w4.drewN m) := (h3.out.2.2.1.trans hf (by simp)).drewN m
      have hR := H.out.1.fr f (by simp) (by simp) (by simp)
      exact ⟨by rw [hR.bk.cell]; rfl, hR.bk.free 0, hR, f.bk H.out.2.2 (by simp)⟩
    go_wp2_with (first | (have hh := h4; go_at_call 130; refine HC4.out.mono ?_; rintro e w5 ⟨rfl, m, rfl⟩; have hkx := HKX.out w4 m h4.out.2.2; obtain ⟨x0, x1, x2⟩ := hkx) | (go_at_call 131; refine HO.out.mono ?_; rintro e w4 ⟨ob, vo, rfl, h4⟩; have HC4 := HCM.out w4 ob vo h4))
    obtain ⟨r1, r2⟩ := x2.out
    have hlt := H.out.2.2.lt
    have hrl := r1.bk.lt
    have hne : w.heap.size ≠ rb := fun e => by
      have h1 := r1.bk
      have h2 := r2
      rw [← e] at h1
      unfold Bk at h1 h2
      rw [h1] at h2
      injection h2 with h2
      injection h2 with _ h2
      exact absurd h2 (by decide)
    have r3 := r2.set_ne ⟨rb, 0, none⟩ (.bool false) hne
    have r4 := r1.setN false
    refine leaves_cons (f := 107) (args := #[.pointer (some ⟨w.heap.size, 0, none⟩)]) (by simp) (by simp [go_sem]) ?_
    refine (free_d .returning r3).mono ?_
    rintro e u' w'' ⟨rfl, rfl, rfl⟩
    have hF : Fr [rb] w ((w4.drewN m).setCell ⟨rb, 0, none⟩ (.bool false)) := (((H.out.2.1.trans (h3.out.2.2.1) (by simp)).trans h4.out.2.2 (by simp)).drewN m).set _ _ (by simp)
    exact ⟨_, results_tmp rfl _ _ _, rfl, r4, hF⟩
end Go.Proofs.YtfbbkngonohlkaaGreatDoor
