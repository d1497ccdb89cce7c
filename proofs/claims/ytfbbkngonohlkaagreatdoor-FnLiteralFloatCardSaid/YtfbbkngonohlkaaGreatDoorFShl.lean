/- Joined texts: Shl, Lsh, LshW, Fl0. -/
import Derived.Test.YtfbbkngonohlkaaGreatDoorFExp
import Derived.Test.YtfbbkngonohlkaaGreatDoorDivWVW
import Derived.Test.YtfbbkngonohlkaaGreatDoorGlob
import Derived.StillTailTactics
/- lshVU: a row of words shifted left. -/
namespace Go.Proofs.YtfbbkngonohlkaaGreatDoor
open Go Go.RowKit
set_option linter.unusedVariables false
set_option linter.unusedSimpArgs false
theorem and_63 {s : Nat} (h : s < 64) : bits .and .u64 (s : Int) 63 = (s : Int) := by
  have h1 := bits_and_u64_nat s 63 (by omega) (by omega)
  have e : s &&& 63 = s := by rw [show (63 : Nat) = 2 ^ 6 - 1 from rfl, Nat.and_two_pow_sub_one_eq_mod]; omega
  rw [e] at h1
  exact h1
/-- What lshVU's loop keeps: the words from place k on are shifted; c went out at the top, p comes in from below. -/
def ShlInv (w : World) (zb zo xo : Nat) (tz : TypeId) (Z X : List Int) (n s : Nat) (c : Int) (k : Nat) (p : Int) (wr : World) : Prop :=
  ∃ ys : List Int, k + ys.length = n ∧ Ws ys ∧ c * BB ys.length + val ys = val (seg X (xo + k) ys.length) * 2 ^ s + p ∧ Bk wr zb tz (cells (splice Z (zo + k) ys)) ∧ Fr [zb] w wr
theorem ShlInv.start {w : World} {zb zo xo n s : Nat} {tz : TypeId} {Z X : List Int} {c : Int} (hz : Bk w zb tz (cells Z)) : ShlInv w zb zo xo tz Z X n s c n c w :=
  ⟨[], rfl, Ws.nil, by simp [val, seg, BB_zero], by rw [splice_nil]; exact hz, (Fr.refl _ _)⟩
theorem ShlInv.drew {w wr : World} {zb zo xo n s : Nat} {tz : TypeId} {Z X : List Int} {c p : Int} {k : Nat} (h : ShlInv w zb zo xo tz Z X n s c k p wr) (m : Nat) : ShlInv w zb zo xo tz Z X n s c k p (wr.drewN m) := by
  obtain ⟨ys, hl, hws, hv, hb, hf⟩ := h
  exact ⟨ys, hl, hws, hv, hb.drewN m, hf.drewN m⟩
/-- One more word y, of x shifted and what comes in from below. -/
theorem ShlInv.step {w wr : World} {zb zo xo n s : Nat} {tz : TypeId} {Z X : List Int} {c x y q : Int} {k : Nat} (h : ShlInv w zb zo xo tz Z X n s c (k + 1) (x / 2 ^ (64 - s)) wr) (hk : zo + k < Z.length) (hx : xo + k < X.length) (hxe : X[xo + k] = x)
    (hwx : Wd x) (hs : s ≤ 64) (hy : y = x * 2 ^ s % 18446744073709551616 + q) (hyw : Wd y) :
    ShlInv w zb zo xo tz Z X n s c k q (wr.setCell ⟨zb, zo + k, none⟩ (.int .u64 y)) := by
  obtain ⟨ys, hl, hws, hv, hb, hf⟩ := h
  obtain ⟨d1, d2, d3⟩ := shl_split hwx hs
  refine ⟨y :: ys, by simp; omega, Ws.cons hyw.1 hyw.2 hws, ?_, ?_, hf.set _ _ (by simp)⟩
  · simp only [val, List.length_cons]
    rw [seg_cons hx, hxe, val, BB_succ, hy]
    have e : xo + k + 1 = xo + (k + 1) := by omega
    rw [e]
    generalize val (seg X (xo + (k + 1)) ys.length) = V at *
    generalize BB ys.length = b at *
    generalize x / 2 ^ (64 - s) = hi at *
    generalize x * 2 ^ s % 18446744073709551616 = lo at *
    generalize (2 : Int) ^ s = P at *
    grind
  · rw [← splice_cons _ (by omega), ← cells_set]; exact hb.set _ _
theorem ShlInv.x {w wr : World} {zb xb zo xo n s : Nat} {tz tx : TypeId} {Z X : List Int} {c p : Int} {k : Nat} (h : ShlInv w zb zo xo tz Z X n s c k p wr) (hz : Bk w zb tz (cells Z)) (hx : Bk w xb tx (cells X))
    (hs : (xb = zb ∧ xo ≤ zo) ∨ xb ≠ zb) (hzl : zo + n ≤ Z.length) (i : Nat) (hi : i < k) (hik : xo + i < X.length) : wr.cell? ⟨xb, xo + i, none⟩ = some (.int .u64 X[xo + i]) := by
  obtain ⟨ys, hl, hws, hv, hb, hf⟩ := h
  rcases hs with ⟨rfl, hle⟩ | hne
  · unfold Bk at hz hx
    rw [hz] at hx
    have e : Z = X := by
      have := (Obj.cells.inj (Option.some.inj hx)).1
      exact cells_inj (by simpa using this)
    subst e
    rw [hb.cell, cells_get, splice_getElem?_lt _ (by omega) (by omega), List.getElem?_eq_getElem hik]; rfl
  · exact (hf.bk hx (by simp [hne])).word _ hik
theorem ShlInv.z {w wr : World} {zb zo xo n s : Nat} {tz : TypeId} {Z X : List Int} {c p : Int} {k : Nat} (h : ShlInv w zb zo xo tz Z X n s c k p wr) (hzl : zo + n ≤ Z.length) (i : Nat) (hi : i < n) :
    ∃ v, wr.cell? ⟨zb, zo + i, none⟩ = some v ∧ wr.frozen? ⟨zb, zo + i, none⟩ = false := by
  obtain ⟨ys, hl, hws, hv, hb, hf⟩ := h
  exact ⟨_, by rw [hb.cell, List.getElem?_eq_getElem (by rw [cells_length, splice_length (by omega)]; omega)], hb.free _⟩
theorem shl_or {x q : Int} {s : Nat} (hx : Wd x) (hq : Wd q) (h1 : 1 ≤ s) (h : s < 64) :
    bits .or .u64 (IntKind.u64.wrap (x * 2 ^ s)) (q / 2 ^ (64 - s)) = x * 2 ^ s % 18446744073709551616 + q / 2 ^ (64 - s) ∧ Wd (x * 2 ^ s % 18446744073709551616 + q / 2 ^ (64 - s)) := by
  obtain ⟨d1, d2, d3⟩ := shl_split hx (s := s) (by omega)
  obtain ⟨c1, c2, c3⟩ := shl_split hq (s := s) (by omega)
  rw [wrap_mod]
  have hp : (2 : Int) ^ s * 2 ^ (64 - s) = 18446744073709551616 := by rw [← Int.pow_add, show s + (64 - s) = 64 by omega]; rfl
  have e : x * 2 ^ s % 18446744073709551616 = (x % 2 ^ (64 - s)) * 2 ^ s := by
    rw [← hp, Int.mul_comm x, Int.mul_emod_mul_of_pos _ _ (Int.pow_pos (by decide)), Int.mul_comm]
  have hQ : (0 : Int) < 2 ^ (64 - s) := Int.pow_pos (by decide)
  have hP : (0 : Int) < 2 ^ s := Int.pow_pos (by decide)
  have h0 : 0 ≤ x % 2 ^ (64 - s) := Int.emod_nonneg _ (by omega)
  have h2 : x % 2 ^ (64 - s) < 2 ^ (64 - s) := Int.emod_lt_of_pos _ hQ
  have hw : Wd (x * 2 ^ s % 18446744073709551616) := ⟨Int.emod_nonneg _ (by decide), Int.emod_lt_of_pos _ (by decide)⟩
  refine ⟨or_disj e hw h0 c2 c3 (by omega), ?_⟩
  have h3 : (x % 2 ^ (64 - s)) * 2 ^ s ≤ (2 ^ (64 - s) - 1) * 2 ^ s := Int.mul_le_mul_of_nonneg_right (by omega) (by omega)
  have h4 : ((2 : Int) ^ (64 - s) - 1) * 2 ^ s = 18446744073709551616 - 2 ^ s := by rw [Int.sub_mul, Int.mul_comm, hp]; omega
  rw [e]
  have h5 : 0 ≤ (x % 2 ^ (64 - s)) * 2 ^ s := Int.mul_nonneg h0 (by omega)
  exact ⟨by omega, by omega⟩
set_option maxHeartbeats 1000000 in
set_option maxRecDepth 100000 in
theorem lshVU_g_any {w : World} {zb xb zo xo n zc xc s : Nat} {tz tx : TypeId} {Z X : List Int} (hz : Bk w zb tz (cells Z)) (hx : Bk w xb tx (cells X))
    (hs : (xb = zb ∧ xo ≤ zo) ∨ xb ≠ zb) (hzl : zo + n ≤ Z.length) (hxl : xo + n ≤ X.length) (h1 : 1 ≤ n) (hn : n ≤ 1000000) (hwx : Ws (seg X xo n)) (hs1 : 1 ≤ s) (hs2 : s < 64) :
    Calls Tryz.prog 174 #[.slice (some ⟨zb, zo, none⟩) n zc, .slice (some ⟨xb, xo, none⟩) n xc, .int .u64 (s : Int)] w fun e w' =>
      ∃ c, e = .returned (.int .u64 c) ∧ 0 ≤ c ∧ c < 2 ^ s ∧ ShlInv w zb zo xo tz Z X n s c 0 0 w' := by
  have HS := Lib.hid hs
  clear hs
  obtain ⟨n, rfl⟩ : ∃ m, n = m + 1 := ⟨n - 1, by omega⟩
  have hx1 := hx.word (xo + n) (by omega)
  have hwd := seg_wd hwx n (by omega) (by omega)
  obtain ⟨x, hxe⟩ : ∃ x, X[xo + n] = x := ⟨_, rfl⟩
  rw [hxe] at hx1 hwd
  obtain ⟨t, ht⟩ : ∃ t : Nat, t = 64 - s := ⟨_, rfl⟩
  have hw1 : IntKind.u64.wrap (64 - (s : Int)) = (t : Int) := by rw [wrap_mod]; omega
  have hm1 : min s 64 = s := by omega
  have hm2 : min t 64 = t := by omega
  have ha1 := and_63 (s := s) hs2
  have ha2 := and_63 (s := t) (by omega)
  have hs0 : ((s : Int) == 0) = false := beq_eq_false_iff_ne.2 (by omega)
  have hn0 : ((n : Int) + 1 == 0) = false := beq_eq_false_iff_ne.2 (by omega)
  have hn1 : IntKind.i64.wrap ((n : Int) + 1 - 1) = (n : Int) := by rw [IntWalk.i64_in _ (by omega)]; omega
  have hT := Lib.hid ht
  have hX := Lib.hid hxe
  clear ht hxe
  go_enter Tryz.func174, Tryz.ntmps174
  go_wp2_with fail
  go_loopw [8] (fun i wr => ∃ (k : Nat) (q : Int), i = .int .i64 k ∧ k ≤ n ∧ Hid (X[xo + k]? = some q) ∧ ShlInv w zb zo xo tz Z X (n + 1) s (x / 2 ^ t) (k + 1) (q / 2 ^ (64 - s)) wr) (fun i _ => (intOf i).toNat)
  case atStart => exact ⟨n, x, by go_num, Nat.le_refl _, (by rw [List.getElem?_eq_getElem (by omega), hX.out]; rfl), by rw [← hT.out]; exact ShlInv.start hz⟩
  case round =>
    obtain ⟨k, q, rfl, hk, hq, hI⟩ := hrel
    obtain ⟨hkl, hqe⟩ := List.getElem?_eq_some_iff.1 hq.out
    have hqw : Wd q := by have := seg_wd hwx k (by omega) (by omega); rwa [hqe] at this
    have hq1 := hI.x hz hx HS.out (by omega) k (by omega) (by omega)
    rw [hqe] at hq1
    obtain ⟨v, hv, hfz⟩ := hI.z (by omega) k (by omega)
    have HQ := Lib.hid hqe
    have HI := Lib.hid hI
    clear hqe hI
    rcases Nat.eq_zero_or_pos k with h0 | hpos
    · subst h0
      simp only [Nat.add_zero] at hq1 hv hfz
      go_wp2_with fail
      go_ret
      have hsh := shl_split hwd (s := s) (by omega)
      have hqq := hq.out
      simp only [Nat.add_zero] at hqq
      obtain ⟨_, hqe⟩ := List.getElem?_eq_some_iff.1 hqq
      have hI := HI.out.step (y := IntKind.u64.wrap (q * 2 ^ s)) (q := 0) (by omega) hkl hqe hqw (by omega) (by rw [wrap_mod]; omega) (by rw [wrap_mod]; exact ⟨Int.emod_nonneg _ (by decide), Int.emod_lt_of_pos _ (by decide)⟩)
      exact ⟨_, rfl, by rw [hT.out]; exact hsh.2.1, by rw [hT.out]; exact hsh.2.2, hI⟩
    · obtain ⟨j, hj⟩ : ∃ j, k = j + 1 := ⟨k - 1, by omega⟩
      have hjl : xo + j < X.length := by omega
      have hr1 := HI.out.x hz hx HS.out (by omega) j (by omega) hjl
      have hrw := seg_wd hwx j (by omega) hjl
      obtain ⟨r, hre⟩ : ∃ r, X[xo + j] = r := ⟨_, rfl⟩
      rw [hre] at hr1 hrw
      have HRE := Lib.hid hre
      clear hre
      have hkw : IntKind.i64.wrap ((k : Int) - 1) = (j : Int) := by rw [IntWalk.i64_in _ (by omega)]; omega
      have hlt1 : (k : Int) < (n : Int) + 1 := by omega
      have hlt2 : (j : Int) < (n : Int) + 1 := by omega
      have hk0 : (0 : Int) ≤ (k : Int) := by omega
      have hk1 : (0 : Int) ≤ (j : Int) := by omega
      have hk2 : (0 : Int) < (k : Int) := by omega
      have HJ := Lib.hid hj
      clear hj
      go_wp2_with fail
      go_still_tail 17, (by kernel_rfl)
      change wpList _ _ _ _ _ wr.drew
      go_wp2_with fail
      go_roundw
      case rel =>
        obtain ⟨y1, y2⟩ := shl_or hqw hrw hs1 hs2
        have hkj := HJ.out
        subst hkj
        have hI := (HI.out.drew 1).step (by omega) hkl HQ.out hqw (by omega) rfl y2
        refine ⟨j, r, rfl, by omega, (by rw [List.getElem?_eq_getElem hjl, HRE.out]; rfl), ?_⟩
        rw [hT.out] at *
        rw [y1]
        exact hI
      case measure => have := HJ.out; simp [intOf]; omega
end Go.Proofs.YtfbbkngonohlkaaGreatDoor
/- nat.lsh by bits and words. -/
namespace Go.Proofs.YtfbbkngonohlkaaGreatDoor
open Go Go.RowKit
set_option linter.unusedVariables false
set_option linter.unusedSimpArgs false
theorem lshVU_any {w : World} {zb xb zo xo n zc xc s : Nat} {tz tx : TypeId} {Z X : List Int} (hz : Bk w zb tz (cells Z)) (hx : Bk w xb tx (cells X))
    (hs : (xb = zb ∧ xo ≤ zo) ∨ xb ≠ zb) (hzl : zo + n ≤ Z.length) (hxl : xo + n ≤ X.length) (h1 : 1 ≤ n) (hn : n ≤ 1000000) (hwx : Ws (seg X xo n)) (hs1 : 1 ≤ s) (hs2 : s < 64) :
    Calls Tryz.prog 126 #[.slice (some ⟨zb, zo, none⟩) n zc, .slice (some ⟨xb, xo, none⟩) n xc, .int .u64 (s : Int)] w fun e w' =>
      ∃ c, e = .returned (.int .u64 c) ∧ 0 ≤ c ∧ c < 2 ^ s ∧ ShlInv w zb zo xo tz Z X n s c 0 0 w' := by
  have HC := Lib.hid (lshVU_g_any (zc := zc) (xc := xc) hz hx hs hzl hxl h1 hn hwx hs1 hs2)
  clear hs
  go_enter Tryz.func126, Tryz.ntmps126
  go_wp2_with (go_at_call 174; refine HC.out.mono ?_; rintro e w' ⟨c, rfl, h1, h2, h3⟩)
  go_ret
  exact ⟨_, rfl, h1, h2, h3⟩
/-- A room whose words from place d on are ys, and below are zs. -/
theorem splice_low {L ys zs : List Int} (h : zs.length ≤ L.length) : splice (splice L zs.length ys) 0 zs = splice L 0 (zs ++ ys) := by
  unfold splice
  have e : (L.take zs.length).length = zs.length := by simp; omega
  rw [List.take_zero, List.take_zero, List.nil_append, List.nil_append, Nat.zero_add, Nat.zero_add, List.append_assoc (L.take _)]
  have e2 : (L.take zs.length ++ (ys ++ L.drop (zs.length + ys.length))).drop zs.length = ys ++ L.drop (zs.length + ys.length) := by
    conv => lhs; arg 1; rw [← e]
    exact List.drop_left
  rw [e2]
  simp
theorem val_shl {ys l : List Int} {d m s : Nat} {c : Int} (hy : ys.length = m) (h : c * BB m + val ys = val l * 2 ^ s) : val (List.replicate d 0 ++ (ys ++ [c])) = val l * 2 ^ (64 * d + s) := by
  rw [val_append, val_snoc, hy, val_replicate, List.length_replicate, Int.pow_add]
  have e : (2 : Int) ^ (64 * d) = BB d := by unfold BB; rw [Int.pow_mul]; rfl
  rw [e]
  generalize (2 : Int) ^ s = P at *
  generalize BB m = B at *
  generalize BB d = D at *
  grind
theorem run_clearW0 {w : World} {b n c : Nat} {t ty : TypeId} {L : List Int} (hb : Bk w b t (cells L)) (hl : n ≤ L.length) :
    (Builtin.clear_ #[108] ty #[.slice (some ⟨b, 0, none⟩) n c]).run Tryz.prog w = .ok (.tuple #[]) (w.setCells b 0 (cells (List.replicate n 0))) := by
  rcases Nat.eq_zero_or_pos n with h | h
  · subst h
    have hv : ∀ w, (zeroValue 162).run Tryz.prog w = .ok (.int .u64 0) w := fun w => by kernel_rfl
    simp [Builtin.clear_, run_underlying Tryz.underlying108, hv, cells, World.setCells]
  · exact run_clearW hb h hl
set_option maxHeartbeats 1000000 in
set_option maxRecDepth 100000 in
theorem lsh_bits {w : World} {v : Value} {l : List Int} {d r : Nat} {s : Int} (hs : s = ((64 * d + r : Nat) : Int)) (hv : NatV w v l) (hl : 0 < l.length) (hl2 : l.length ≤ 2000) (hc : capOf v ≤ 9223372036854775807) (hd : d ≤ 10) (hr1 : 1 ≤ r) (hr2 : r < 64) :
    Calls Tryz.prog 86 #[v, v, .int .u64 s] w fun e w' => ∃ v' l', e = .returned v' ∧ NatV w' v' l' ∧ Nrm l' ∧ val l' = val l * 2 ^ (64 * d + r) ∧ capOf v' ≤ 9223372036854775807 ∧ Fr (vb v) w w' ∧ (∀ b, b ∈ vb v' → b ∈ vb v ∨ w.heap.size ≤ b) := by
  obtain ⟨xb, xt, xj, rfl, hxb, hxw⟩ := hv.at hl
  have hs0 : (s == 0) = false := beq_eq_false_iff_ne.2 (by omega)
  have hl0 : ((l.length : Int) == 0) = false := beq_eq_false_iff_ne.2 (by omega)
  have hq : IntKind.u64.wrap (s.tdiv 64) = (d : Int) := by rw [Int.tdiv_eq_ediv_of_nonneg (by omega), wrap_mod]; omega
  have hm : s.tmod 64 = (r : Int) := by rw [Int.tmod_eq_emod_of_nonneg (by omega)]; omega
  have hr0 : ((r : Int) == 0) = false := beq_eq_false_iff_ne.2 (by omega)
  have hcd : IntKind.i64.wrap (d : Int) = (d : Int) := IntWalk.i64_in _ (by omega)
  obtain ⟨n, hn⟩ : ∃ n : Nat, n = l.length + d := ⟨_, rfl⟩
  have hn1 : IntKind.i64.wrap ((l.length : Int) + (d : Int)) = (n : Int) := by rw [IntWalk.i64_in _ (by omega)]; omega
  obtain ⟨n1, hn1'⟩ : ∃ n1 : Nat, n1 = n + 1 := ⟨_, rfl⟩
  have hn2 : IntKind.i64.wrap ((n : Int) + 1) = (n1 : Int) := by rw [IntWalk.i64_in _ (by omega)]; omega
  have hn3 : IntKind.i64.wrap ((n : Int) - (l.length : Int)) = (d : Int) := by rw [IntWalk.i64_in _ (by omega)]; omega
  have hnd : n - d = l.length := by omega
  have hnle : (n : Int) ≤ (n1 : Int) := by omega
  have hnlt : (n : Int) < (n1 : Int) := by omega
  have hdle : (d : Int) ≤ (n : Int) := by omega
  have hd0 : (0 : Int) ≤ (d : Int) := by omega
  have hn0 : (0 : Int) ≤ (n : Int) := by omega
  have HM := Lib.hid (make_any2 (w := w) n1 rfl hv hc (by omega) (by omega))
  have hnb : n1 ≤ 4000 := by omega
  have HN := Lib.hid hn
  have HN1 := Lib.hid hn1'
  have HS := Lib.hid hs
  clear hn hn1' hs
  go_enter Tryz.func86, Tryz.ntmps86
  go_wp2_with (first | (go_at_call 123; refine HM.out.mono ?_; rintro e w1 ⟨v1, b1, rfl, ⟨t1, L1, rfl, hb1, hl1⟩, hcap1, hf1, hin1⟩; refine Hid.out ?_))
  refine Lib.hid ?_
  have hxb1 := hf1.bk hxb (by simp)
  have hsame : (xb = b1 ∧ 0 ≤ d) ∨ xb ≠ b1 := by
    by_cases h : xb = b1
    · exact .inl ⟨h, Nat.zero_le _⟩
    · exact .inr h
  have HSH := Lib.hid (lshVU_any (w := w1) (zo := d) (xo := 0) (n := l.length) (zc := L1.length - d) (xc := l.length + xj.length) (s := r) hb1 hxb1 hsame (by have := HN.out; have := HN1.out; omega) (by simp) hl (by omega) (by simpa [seg] using hxw) hr1 hr2)
  have HL1 := Lib.hid hl1
  have hin2 : Hid (b1 ∈ vb (.slice (some ⟨xb, 0, none⟩) l.length (l.length + xj.length)) ∨ w.heap.size ≤ b1) := by
    rcases hin1 with h | h
    · exact .inl h.1
    · exact .inr (by omega)
  clear hsame hin1
  have hnL : (n1 : Int) ≤ (L1.length : Int) := by omega
  go_wp2_with (go_at_call 126; go_must (refine HSH.out.mono ?_; rintro e w2 ⟨c, rfl, hc0, hc1, hsh⟩; refine Hid.out ?_))
  refine Lib.hid ?_
  obtain ⟨ys, hyl, hyws, hyv, hyb, hyf⟩ := hsh
  have e0 : d + 0 = d := rfl
  simp only [Nat.add_zero, Nat.zero_add, e0] at hyl hyb
  have hsp : (splice L1 d ys).length = L1.length := splice_length (by have := HN.out; have := HN1.out; have := HL1.out; omega)
  obtain ⟨cv, hcell⟩ : ∃ cv, w2.cell? ⟨b1, n, none⟩ = some cv := ⟨_, hyb.word n (by have := HN.out; have := HN1.out; have := HL1.out; omega)⟩
  have hfz := hyb.free n
  have hb3 := hyb.set n (.int .u64 c)
  rw [cells_set] at hb3
  have HB3 := Lib.hid hb3
  have hclr := fun (ty : TypeId) => run_clearW0 (ty := ty) (n := d) (c := L1.length) hb3 (by have := HN.out; have := HN1.out; have := HL1.out; simp; omega)
  have HB4 := Lib.hid (Bk.setCells (List.replicate d 0) 0 _ _ hb3 (by have := HN.out; have := HN1.out; have := HL1.out; simp; omega))
  have HF4 := Lib.hid (Fr.setCells (cells (List.replicate d 0)) 0 _ ((((hf1.mono (S' := vb (.slice (some ⟨xb, 0, none⟩) l.length (l.length + xj.length))) (by simp)).trans hyf (fun x hx => by simp at hx; rw [hx]; exact hin2.out))).set ⟨b1, n, none⟩ (.int .u64 c) hin2.out) (b := b1) hin2.out)
  obtain ⟨w3, hw3⟩ : ∃ w3, w2.setCell ⟨b1, n, none⟩ (.int .u64 c) = w3 := ⟨_, rfl⟩
  simp only [hw3] at hclr HB4 HF4
  obtain ⟨w4, hw4⟩ : ∃ w4, w3.setCells b1 0 (cells (List.replicate d 0)) = w4 := ⟨_, rfl⟩
  simp only [hw4] at hclr HB4 HF4
  have HYL := Lib.hid hyl
  have HYV := Lib.hid hyv
  have HSP := Lib.hid hsp
  have HW4 := Lib.hid hw4
  clear hyl hyv hsp hyb hb3 hw4
  go_wp2_with (fail)
  have hfin := HB4.out
  have h1 := HN.out
  have h2 := HN1.out
  have h3 := HL1.out
  have h4 := HYL.out
  have h5 := HYV.out
  rw [show n = d + ys.length by omega, splice_snoc _ (by omega)] at hfin
  have e3 := splice_low (L := L1) (ys := ys ++ [c]) (zs := List.replicate d 0) (by simp; omega)
  rw [List.length_replicate] at e3
  rw [e3] at hfin
  have e4 : seg (l ++ xj) (0 + 0) ys.length = l := by rw [h4]; simp [seg]
  rw [e4, Int.add_zero] at h5
  have hcw : Wd c := ⟨hc0, Int.lt_of_lt_of_le hc1 (by
    have : (2 : Int) ^ r ≤ 2 ^ 64 := by exact_mod_cast Nat.pow_le_pow_right (by omega : 0 < 2) (by omega : r ≤ 64)
    exact this)⟩
  have hws : Ws (List.replicate d 0 ++ (ys ++ [c])) := (Ws.replicate d).append (hyws.append (Ws.cons hcw.1 hcw.2 Ws.nil))
  have hlen : (List.replicate d 0 ++ (ys ++ [c])).length = n1 := by simp; omega
  have HFIN := Lib.hid hfin
  have HV := Lib.hid (val_shl (l := l) (d := d) (s := r) (c := c) rfl h5)
  have HLEN := Lib.hid hlen
  have HNO := Lib.hid (norm_any (o := 0) (n := n1) (c := L1.length) hfin (by rw [splice_length (by omega)]; omega) (by omega) (by omega))
  clear h1 h2 h3 h4 h5 e3 e4 hfin hlen
  refine HNO.out.mono ?_
  rintro e w5 ⟨i, rfl, hi, rfl⟩
  go_wp2_with fail
  go_ret
  obtain ⟨hat, hnm, hval⟩ := NatAt.of_prefix HFIN.out HLEN.out HL1.out hws hi
  refine ⟨_, _, rfl, .inr ⟨b1, hat⟩, hnm, by rw [hval, HV.out], hcap1, HF4.out, ?_⟩
  intro b hb; simp [vb] at hb; subst hb; exact hin2.out
end Go.Proofs.YtfbbkngonohlkaaGreatDoor
/- nat.lsh by whole words. -/
namespace Go.Proofs.YtfbbkngonohlkaaGreatDoor
open Go Go.RowKit
set_option linter.unusedVariables false
set_option linter.unusedSimpArgs false
set_option maxHeartbeats 1000000 in
set_option maxRecDepth 100000 in
theorem lsh_words {w : World} {v : Value} {l : List Int} {d : Nat} {s : Int} (hs : s = ((64 * d : Nat) : Int)) (hv : NatV w v l) (hl : 0 < l.length) (hl2 : l.length ≤ 2000) (hc : capOf v ≤ 9223372036854775807) (hd : d ≤ 10) (hd1 : 1 ≤ d) :
    Calls Tryz.prog 86 #[v, v, .int .u64 s] w fun e w' => ∃ v' l', e = .returned v' ∧ NatV w' v' l' ∧ Nrm l' ∧ val l' = val l * 2 ^ (64 * d) ∧ capOf v' ≤ 9223372036854775807 ∧ Fr (vb v) w w' ∧ (∀ b, b ∈ vb v' → b ∈ vb v ∨ w.heap.size ≤ b) := by
  obtain ⟨xb, xt, xj, rfl, hxb, hxw⟩ := hv.at hl
  have hs0 : (s == 0) = false := beq_eq_false_iff_ne.2 (by omega)
  have hl0 : ((l.length : Int) == 0) = false := beq_eq_false_iff_ne.2 (by omega)
  have hq : IntKind.u64.wrap (s.tdiv 64) = (d : Int) := by rw [Int.tdiv_eq_ediv_of_nonneg (by omega), wrap_mod]; omega
  have hm : s.tmod 64 = 0 := by rw [Int.tmod_eq_emod_of_nonneg (by omega)]; omega
  have hcd : IntKind.i64.wrap (d : Int) = (d : Int) := IntWalk.i64_in _ (by omega)
  obtain ⟨n, hn⟩ : ∃ n : Nat, n = l.length + d := ⟨_, rfl⟩
  have hn1 : IntKind.i64.wrap ((l.length : Int) + (d : Int)) = (n : Int) := by rw [IntWalk.i64_in _ (by omega)]; omega
  obtain ⟨n1, hn1'⟩ : ∃ n1 : Nat, n1 = n + 1 := ⟨_, rfl⟩
  have hn2 : IntKind.i64.wrap ((n : Int) + 1) = (n1 : Int) := by rw [IntWalk.i64_in _ (by omega)]; omega
  have hn3 : IntKind.i64.wrap ((n : Int) - (l.length : Int)) = (d : Int) := by rw [IntWalk.i64_in _ (by omega)]; omega
  have hnd : n - d = l.length := by omega
  have hnle : (n : Int) ≤ (n1 : Int) := by omega
  have hnlt : (n : Int) < (n1 : Int) := by omega
  have hdle : (d : Int) ≤ (n : Int) := by omega
  have hd0 : (0 : Int) ≤ (d : Int) := by omega
  have hn0 : (0 : Int) ≤ (n : Int) := by omega
  have HM := Lib.hid (make_any2 (w := w) n1 rfl hv hc (by omega) (by omega))
  have hnb : n1 ≤ 4000 := by omega
  have HN := Lib.hid hn
  have HN1 := Lib.hid hn1'
  have HS := Lib.hid hs
  clear hn hn1' hs
  go_enter Tryz.func86, Tryz.ntmps86
  go_wp2_with (first | (go_at_call 123; refine HM.out.mono ?_; rintro e w1 ⟨v1, b1, rfl, ⟨t1, L1, rfl, hb1, hl1⟩, hcap1, hf1, hin1⟩; refine Hid.out ?_))
  refine Lib.hid ?_
  have hxb1 := hf1.bk hxb (by simp)
  have hsx : seg (l ++ xj) 0 l.length = l := by unfold seg; rw [List.drop_zero, List.take_append_of_le_length (Nat.le_refl _), List.take_of_length_le (Nat.le_refl _)]
  have hcp : ∀ ty, (Builtin.copy_ #[108, 108] ty #[.slice (some ⟨b1, d, none⟩) l.length (L1.length - d), .slice (some ⟨xb, 0, none⟩) l.length (l.length + xj.length)]).run Tryz.prog w1 = .ok (.int .i64 l.length) (w1.setCells b1 d (cells l)) := fun ty => by
    have := run_copyW (n := l.length) (o := d) (so := 0) (ty := ty) (sT := 108) w1 (dl := l.length) (dc := L1.length - d) (sl := l.length) (sc := l.length + xj.length) Tryz.underlying108 hb1 hxb1 (Nat.min_self _) (by have := HN.out; have := HN1.out; omega) (by simp)
    rw [hsx] at this
    exact this
  have hyb := Bk.setCells l d L1 w1 hb1 (by have := HN.out; have := HN1.out; omega)
  have hyf : Fr [b1] w1 (w1.setCells b1 d (cells l)) := Fr.setCells _ _ _ (Fr.refl [b1] w1) (by simp)
  have HL1 := Lib.hid hl1
  have hin2 : Hid (b1 ∈ vb (.slice (some ⟨xb, 0, none⟩) l.length (l.length + xj.length)) ∨ w.heap.size ≤ b1) := by
    rcases hin1 with h | h
    · exact .inl h.1
    · exact .inr (by omega)
  clear hin1
  have hnL : (n1 : Int) ≤ (L1.length : Int) := by omega
  have hndl : ¬ (L1.length = d) := by have := HN.out; have := HN1.out; omega
  have hsp : (splice L1 d l).length = L1.length := splice_length (by have := HN.out; have := HN1.out; have := HL1.out; omega)
  generalize w1.setCells b1 d (cells l) = w2 at *
  obtain ⟨cv, hcell⟩ : ∃ cv, w2.cell? ⟨b1, n, none⟩ = some cv := ⟨_, hyb.word n (by have := HN.out; have := HN1.out; have := HL1.out; omega)⟩
  have hfz := hyb.free n
  have hb3 := hyb.set n (.int .u64 0)
  rw [cells_set] at hb3
  have HB3 := Lib.hid hb3
  have hclr := fun (ty : TypeId) => run_clearW0 (ty := ty) (n := d) (c := L1.length) hb3 (by have := HN.out; have := HN1.out; have := HL1.out; simp; omega)
  have HB4 := Lib.hid (Bk.setCells (List.replicate d 0) 0 _ _ hb3 (by have := HN.out; have := HN1.out; have := HL1.out; simp; omega))
  have HF4 := Lib.hid (Fr.setCells (cells (List.replicate d 0)) 0 _ ((((hf1.mono (S' := vb (.slice (some ⟨xb, 0, none⟩) l.length (l.length + xj.length))) (by simp)).trans hyf (fun x hx => by simp at hx; rw [hx]; exact hin2.out))).set ⟨b1, n, none⟩ (.int .u64 0) hin2.out) (b := b1) hin2.out)
  obtain ⟨w3, hw3⟩ : ∃ w3, w2.setCell ⟨b1, n, none⟩ (.int .u64 0) = w3 := ⟨_, rfl⟩
  simp only [hw3] at hclr HB4 HF4
  obtain ⟨w4, hw4⟩ : ∃ w4, w3.setCells b1 0 (cells (List.replicate d 0)) = w4 := ⟨_, rfl⟩
  simp only [hw4] at hclr HB4 HF4
  have HSP := Lib.hid hsp
  have HW4 := Lib.hid hw4
  clear hsp hyb hb3 hw4
  go_wp2_with (fail)
  have hfin := HB4.out
  have h1 := HN.out
  have h2 := HN1.out
  have h3 := HL1.out
  rw [show n = d + l.length by omega, splice_snoc _ (by omega)] at hfin
  have e3 := splice_low (L := L1) (ys := l ++ [0]) (zs := List.replicate d 0) (by simp; omega)
  rw [List.length_replicate] at e3
  rw [e3] at hfin
  have hws : Ws (List.replicate d 0 ++ (l ++ [0])) := (Ws.replicate d).append (hxw.append (Ws.cons (by omega) (by omega) Ws.nil))
  have hlen : (List.replicate d 0 ++ (l ++ [0])).length = n1 := by simp; omega
  have HFIN := Lib.hid hfin
  have HV := Lib.hid (val_shl (ys := l) (l := l) (d := d) (s := 0) (c := 0) rfl (by simp))
  have HLEN := Lib.hid hlen
  have HNO := Lib.hid (norm_any (o := 0) (n := n1) (c := L1.length) hfin (by rw [splice_length (by omega)]; omega) (by omega) (by omega))
  clear h1 h2 h3 e3 hfin hlen
  refine HNO.out.mono ?_
  rintro e w5 ⟨i, rfl, hi, rfl⟩
  go_wp2_with fail
  go_ret
  obtain ⟨hat, hnm, hval⟩ := NatAt.of_prefix HFIN.out HLEN.out HL1.out hws hi
  refine ⟨_, _, rfl, .inr ⟨b1, hat⟩, hnm, by rw [hval, HV.out, Nat.add_zero], hcap1, HF4.out, ?_⟩
  intro b hb; simp [vb] at hb; subst hb; exact hin2.out
theorem lsh_all {w : World} {v : Value} {l : List Int} {p : Nat} {s : Int} (hs : s = (p : Int)) (hv : NatV w v l) (hl : 0 < l.length) (hl2 : l.length ≤ 2000) (hc : capOf v ≤ 9223372036854775807) (hp : 1 ≤ p) (hp2 : p ≤ 640) :
    Calls Tryz.prog 86 #[v, v, .int .u64 s] w fun e w' => ∃ v' l', e = .returned v' ∧ NatV w' v' l' ∧ Nrm l' ∧ val l' = val l * 2 ^ p ∧ capOf v' ≤ 9223372036854775807 ∧ Fr (vb v) w w' ∧ (∀ b, b ∈ vb v' → b ∈ vb v ∨ w.heap.size ≤ b) := by
  obtain ⟨d, r, hd, hr⟩ : ∃ d r, p = 64 * d + r ∧ r < 64 := ⟨p / 64, p % 64, by omega, by omega⟩
  subst hd
  rcases (show r = 0 ∨ 1 ≤ r by omega) with h | h
  · subst h
    exact lsh_words hs hv hl hl2 hc (by omega) (by omega)
  · exact lsh_bits hs hv hl hl2 hc (by omega) h hr
end Go.Proofs.YtfbbkngonohlkaaGreatDoor
/- Floats in memory (FlB), and the small functions on them. -/
namespace Go.Proofs.YtfbbkngonohlkaaGreatDoor
open Go Go.RowKit
set_option linter.unusedVariables false
set_option linter.unusedSimpArgs false
/-- A mantissa whose top bit is set. -/
def Msb (l : List Int) : Prop := 0 < l.length ∧ BB l.length ≤ 2 * val l
theorem Msb.nrm {l : List Int} (h : Msb l) (hw : Ws l) : Nrm l := by
  intro hh e
  obtain ⟨h0, h1⟩ := h
  obtain ⟨k, hk⟩ : ∃ k, l.length = k + 1 := ⟨l.length - 1, by omega⟩
  have h2 := val_take_succ l k (by omega)
  rw [List.take_of_length_le (by omega)] at h2
  have e2 : l[k] = 0 := by simpa [hk] using e
  have h3 := val_lt (hw.take k)
  rw [List.length_take, Nat.min_eq_left (by omega)] at h3
  rw [e2, Int.mul_zero] at h2
  rw [hk, BB_succ] at h1
  have := BB_pos k
  omega
theorem Msb.pos {l : List Int} (h : Msb l) : 0 < val l := by
  have := BB_pos l.length
  have := h.2
  omega
/-- A Float in block b: its precision, accuracy, form, sign, mantissa and exponent; it rounds to the nearest even. -/
structure FlB (w : World) (b : Nat) (prec acc form : Int) (neg : Bool) (va : Value) (ex : Int) (A : List Int) : Prop where
  bk : Bk w b 166 [.int .u32 prec, .int .u8 0, .int .i8 acc, .int .u8 form, .bool neg, va, .int .i32 ex]
  av : NatV w va A
  ap : b ∉ vb va
  cap : capOf va ≤ 9223372036854775807
theorem FlB.fr {S : List Nat} {w w' : World} {b : Nat} {prec acc form ex : Int} {neg : Bool} {va : Value} {A : List Int} (h : FlB w b prec acc form neg va ex A) (hf : Fr S w w') (h1 : b ∉ S) (h2 : ∀ k, k ∈ vb va → k ∉ S) : FlB w' b prec acc form neg va ex A :=
  ⟨hf.bk h.bk h1, h.av.fr hf h2, h.ap, h.cap⟩
theorem FlB.frb {w : World} {b : Nat} {prec acc form ex : Int} {neg : Bool} {va : Value} {A : List Int} (h : FlB w b prec acc form neg va ex A) (o : Nat) (v : Value) : NatV (w.setCell ⟨b, o, none⟩ v) va A :=
  h.av.fr ((Fr.refl [b] w).set ⟨b, o, none⟩ v (by simp)) (fun k hk hm => by simp at hm; subst hm; exact h.ap hk)
theorem FlB.setPrec {w : World} {b : Nat} {prec acc form ex : Int} {neg : Bool} {va : Value} {A : List Int} (h : FlB w b prec acc form neg va ex A) (x : Int) : FlB (w.setCell ⟨b, 0, none⟩ (.int .u32 x)) b x acc form neg va ex A := ⟨h.bk.set 0 _, h.frb _ _, h.ap, h.cap⟩
theorem FlB.setAcc {w : World} {b : Nat} {prec acc form ex : Int} {neg : Bool} {va : Value} {A : List Int} (h : FlB w b prec acc form neg va ex A) (x : Int) : FlB (w.setCell ⟨b, 2, none⟩ (.int .i8 x)) b prec x form neg va ex A := ⟨h.bk.set 2 _, h.frb _ _, h.ap, h.cap⟩
theorem FlB.setForm {w : World} {b : Nat} {prec acc form ex : Int} {neg : Bool} {va : Value} {A : List Int} (h : FlB w b prec acc form neg va ex A) (x : Int) : FlB (w.setCell ⟨b, 3, none⟩ (.int .u8 x)) b prec acc x neg va ex A := ⟨h.bk.set 3 _, h.frb _ _, h.ap, h.cap⟩
theorem FlB.setNeg {w : World} {b : Nat} {prec acc form ex : Int} {neg : Bool} {va : Value} {A : List Int} (h : FlB w b prec acc form neg va ex A) (x : Bool) : FlB (w.setCell ⟨b, 4, none⟩ (.bool x)) b prec acc form x va ex A := ⟨h.bk.set 4 _, h.frb _ _, h.ap, h.cap⟩
theorem FlB.setExp {w : World} {b : Nat} {prec acc form ex : Int} {neg : Bool} {va : Value} {A : List Int} (h : FlB w b prec acc form neg va ex A) (x : Int) : FlB (w.setCell ⟨b, 6, none⟩ (.int .i32 x)) b prec acc form neg va x A := ⟨h.bk.set 6 _, h.frb _ _, h.ap, h.cap⟩
theorem FlB.drewN {w : World} {b : Nat} {prec acc form ex : Int} {neg : Bool} {va : Value} {A : List Int} (h : FlB w b prec acc form neg va ex A) (n : Nat) : FlB (w.drewN n) b prec acc form neg va ex A := h.fr ((Fr.refl [] w).drewN n) (by simp) (by simp)
/-- The mantissa anew. -/
theorem FlB.setMant {w : World} {b : Nat} {prec acc form ex : Int} {neg : Bool} {va v : Value} {A l : List Int} (hb : Bk w b 166 [.int .u32 prec, .int .u8 0, .int .i8 acc, .int .u8 form, .bool neg, va, .int .i32 ex]) (hv : NatV w v l) (ha : b ∉ vb v) (hc : capOf v ≤ 9223372036854775807) :
    FlB (w.setCell ⟨b, 5, none⟩ v) b prec acc form neg v ex l :=
  ⟨hb.set 5 _, hv.fr ((Fr.refl [b] w).set ⟨b, 5, none⟩ v (by simp)) (fun k hk hm => by simp at hm; subst hm; exact ha hk), ha, hc⟩
/-- The cells of a Float. -/
structure FlC (w : World) (b : Nat) (prec acc form : Int) (neg : Bool) (va : Value) (ex : Int) : Prop where
  c0 : w.cell? ⟨b, 0, none⟩ = some (.int .u32 prec)
  c1 : w.cell? ⟨b, 1, none⟩ = some (.int .u8 0)
  c2 : w.cell? ⟨b, 2, none⟩ = some (.int .i8 acc)
  c3 : w.cell? ⟨b, 3, none⟩ = some (.int .u8 form)
  c4 : w.cell? ⟨b, 4, none⟩ = some (.bool neg)
  c5 : w.cell? ⟨b, 5, none⟩ = some va
  c6 : w.cell? ⟨b, 6, none⟩ = some (.int .i32 ex)
theorem FlB.cs {w : World} {b : Nat} {prec acc form ex : Int} {neg : Bool} {va : Value} {A : List Int} (h : FlB w b prec acc form neg va ex A) : FlC w b prec acc form neg va ex :=
  ⟨by rw [h.bk.cell]; rfl, by rw [h.bk.cell]; rfl, by rw [h.bk.cell]; rfl, by rw [h.bk.cell]; rfl, by rw [h.bk.cell]; rfl, by rw [h.bk.cell]; rfl, by rw [h.bk.cell]; rfl⟩
theorem u32_in {x : Int} (h0 : 0 ≤ x) (h1 : x < 4294967296) : IntKind.u32.wrap x = x := by
  rw [IntKind.wrap_u32]; omega
theorem i32_in {x : Int} (h0 : -2147483648 ≤ x) (h1 : x < 2147483648) : IntKind.i32.wrap x = x := by
  rw [IntKind.wrap_i32]; omega
def z166 : Obj := .cells #[.int .u32 0, .int .u8 0, .int .i8 0, .int .u8 0, .bool false, .slice none 0 0, .int .i32 0] 166
theorem z166_fl (w : World) : FlB (w.alloc z166) w.heap.size 0 0 0 false (.slice none 0 0) 0 [] :=
  ⟨Bk.new w 166 _, NatV.nil _, by simp [vb], by simp [capOf]⟩
theorem setPrec_new {w : World} {b : Nat} {acc form ex : Int} {neg : Bool} {va : Value} {A : List Int} {p : Nat} (h : FlB w b 0 acc form neg va ex A) (hp : 1 ≤ p) (hp2 : p ≤ 100000) :
    Calls Tryz.prog 97 #[.pointer (some ⟨b, 0, none⟩), .int .u64 (p : Int)] w fun e w' => e = .returned (.pointer (some ⟨b, 0, none⟩)) ∧ Hid (FlB w' b p 0 form neg va ex A ∧ Fr [b] w w') := by
  obtain ⟨c0, c1, c2, c3, c4, c5, c6⟩ := h.cs
  have f0 := h.bk.free 0
  have f2 := h.bk.free 2
  have e1 : ((p : Int) == 0) = false := beq_eq_false_iff_ne.2 (by omega)
  have e2 : IntKind.u32.wrap (p : Int) = p := u32_in (by omega) (by omega)
  have hp0 : ¬ (p : Int) < 0 := by omega
  have HR : Hid (FlB ((w.setCell ⟨b, 2, none⟩ (.int .i8 0)).setCell ⟨b, 0, none⟩ (.int .u32 p)) b p 0 form neg va ex A) := (h.setAcc 0).setPrec p
  have HF : Hid (Fr [b] w ((w.setCell ⟨b, 2, none⟩ (.int .i8 0)).setCell ⟨b, 0, none⟩ (.int .u32 p))) := ((Fr.refl [b] w).set _ _ (by simp)).set _ _ (by simp)
  clear h
  go_enter Tryz.func97, Tryz.ntmps97
  go_wp2_with fail
  go_ret
  exact ⟨rfl, HR.out, HF.out⟩
theorem newFloat_any {w : World} : Calls Tryz.prog 61 #[] w fun e w' => e = .returned (.pointer (some ⟨w.heap.size, 0, none⟩)) ∧ Hid (FlB w' w.heap.size 512 0 0 false (.slice none 0 0) 0 [] ∧ Fr [] w w') := by
  have H : Hid (Calls Tryz.prog 97 #[.pointer (some ⟨w.heap.size, 0, none⟩), .int .u64 512] (w.alloc z166) fun e w' => e = .returned (.pointer (some ⟨w.heap.size, 0, none⟩)) ∧ Hid (FlB w' w.heap.size 512 0 0 false (.slice none 0 0) 0 [] ∧ Fr [w.heap.size] (w.alloc z166) w')) :=
    setPrec_new (p := 512) (z166_fl w) (by omega) (by omega)
  go_enter Tryz.func61, Tryz.ntmps61
  go_wp2_with (go_at_call 97; refine H.out.mono ?_; rintro e w1 ⟨rfl, h1⟩)
  go_ret
  exact ⟨rfl, h1.out.1, ((Fr.refl [] w).alloc z166).trans h1.out.2 (by simp)⟩
theorem prec_any {w : World} {b : Nat} {p : Nat} {acc form ex : Int} {neg : Bool} {va : Value} {A : List Int} (h : FlB w b p acc form neg va ex A) (hp2 : p ≤ 100000) :
    Calls Tryz.prog 195 #[.pointer (some ⟨b, 0, none⟩)] w fun e w' => e = .returned (.int .u64 (p : Int)) ∧ w = w' := by
  obtain ⟨c0, c1, c2, c3, c4, c5, c6⟩ := h.cs
  have e2 : IntKind.u64.wrap (p : Int) = p := wrapW ⟨by omega, by omega⟩
  clear h
  go_enter Tryz.func195, Tryz.ntmps195
  go_wp2_with fail
  go_ret
  exact ⟨rfl, rfl⟩
theorem setUint64_any {w : World} {z : Value} {Z : List Int} {x : Int} (hz : NatV w z Z) (hx : Wd x) :
    Calls Tryz.prog 84 #[z, .int .u64 x] w fun e w' => ∃ v l, e = .returned v ∧ NatV w' v l ∧ Nrm l ∧ val l = x ∧ Fr (vb z) w w' ∧ (∀ b, b ∈ vb v → b ∈ vb z ∨ w.heap.size ≤ b) ∧ (capOf z ≤ 9223372036854775807 → capOf v ≤ 9223372036854775807) := by
  have H := Lib.hid (setWord_any hz hx)
  have e1 : IntKind.u64.wrap x = x := wrapW hx
  go_enter Tryz.func84, Tryz.ntmps84
  go_wp2_with (go_at_call 110; refine H.out.mono ?_; rintro e w1 ⟨v, l, rfl, h1⟩; have h1 := Lib.hid h1)
  go_ret
  exact ⟨v, l, rfl, h1.out⟩
theorem setUint64_sl {w : World} {z : Value} {Z : List Int} {x : Int} (hz : NatV w z Z) (hx : Wd x) :
    Calls Tryz.prog 84 #[z, .int .u64 x] w fun e w' => ∃ a n c l, e = .returned (.slice a n c) ∧ Hid (NatV w' (.slice a n c) l ∧ Nrm l ∧ val l = x ∧ Fr (vb z) w w' ∧ (∀ b, b ∈ vb (.slice a n c) → b ∈ vb z ∨ w.heap.size ≤ b) ∧ (capOf z ≤ 9223372036854775807 → capOf (.slice a n c) ≤ 9223372036854775807)) := by
  refine (setUint64_any hz hx).mono ?_
  rintro e w' ⟨v, l, rfl, h⟩
  obtain ⟨a, c, rfl, _⟩ := h.1.form
  exact ⟨a, _, c, l, rfl, h⟩
theorem isInf_any {w : World} {b : Nat} {p acc form ex : Int} {neg : Bool} {va : Value} {A : List Int} (h : FlB w b p acc form neg va ex A) (hf : form ≠ 2) :
    Calls Tryz.prog 99 #[.pointer (some ⟨b, 0, none⟩)] w fun e w' => e = .returned (.bool false) ∧ w = w' := by
  obtain ⟨c0, c1, c2, c3, c4, c5, c6⟩ := h.cs
  have e1 : (form == 2) = false := beq_eq_false_iff_ne.2 hf
  clear h
  go_enter Tryz.func99, Tryz.ntmps99
  go_wp2_with fail
  go_ret
  exact ⟨rfl, rfl⟩
theorem mantExp_any {w : World} {b : Nat} {p acc form ex : Int} {neg : Bool} {va : Value} {A : List Int} (h : FlB w b p acc form neg va ex A) (h0 : -4096 < ex) (h1 : ex < 4096) :
    Calls Tryz.prog 100 #[.pointer (some ⟨b, 0, none⟩), .pointer none] w fun e w' => ∃ x : Int, e = .returned (.int .i64 x) ∧ -4096 < x ∧ x < 4096 ∧ w = w' := by
  obtain ⟨c0, c1, c2, c3, c4, c5, c6⟩ := h.cs
  have e2 : IntKind.i64.wrap ex = ex := IntWalk.i64_in _ (by omega)
  clear h
  by_cases hf : form = 1
  · have e1 : (form == 1) = true := beq_iff_eq.2 hf
    clear hf
    go_enter Tryz.func100, Tryz.ntmps100
    go_wp2_with fail
    go_ret
    exact ⟨_, rfl, h0, h1, rfl⟩
  · have e1 : (form == 1) = false := beq_eq_false_iff_ne.2 hf
    clear hf
    go_enter Tryz.func100, Tryz.ntmps100
    go_wp2_with fail
    go_ret
    exact ⟨_, rfl, by omega, by omega, rfl⟩
theorem fsign_any {w : World} {b : Nat} {p acc form ex : Int} {va : Value} {A : List Int} (h : FlB w b p acc form false va ex A) :
    Calls Tryz.prog 64 #[.pointer (some ⟨b, 0, none⟩)] w fun e w' => e = .returned (.int .i64 (if form = 0 then 0 else 1)) ∧ w = w' := by
  obtain ⟨c0, c1, c2, c3, c4, c5, c6⟩ := h.cs
  clear h
  by_cases hf : form = 0
  · have e1 : (form == 0) = true := beq_iff_eq.2 hf
    rw [if_pos hf]
    clear hf
    go_enter Tryz.func64, Tryz.ntmps64
    go_wp2_with fail
    go_ret
    exact ⟨rfl, rfl⟩
  · have e1 : (form == 0) = false := beq_eq_false_iff_ne.2 hf
    rw [if_neg hf]
    clear hf
    go_enter Tryz.func64, Tryz.ntmps64
    go_wp2_with fail
    go_ret
    exact ⟨rfl, rfl⟩
theorem smallFloat_any {w : World} {b : Nat} {p acc form ex : Int} {neg : Bool} {va : Value} {A : List Int} (h : FlB w b p acc form neg va ex A) (hf : form ≠ 2) (h0 : -4096 < ex) (h1 : ex < 4096) :
    Calls Tryz.prog 63 #[.pointer (some ⟨b, 0, none⟩)] w fun e w' => e = .returned (.bool true) ∧ w = w' := by
  have HI := Lib.hid (isInf_any h hf)
  have HM := Lib.hid (mantExp_any h h0 h1)
  clear h
  go_enter Tryz.func63, Tryz.ntmps63
  go_wp2_with (first | (go_at_call 99; refine HI.out.mono ?_; rintro e w1 ⟨rfl, rfl⟩) | (go_at_call 100; refine HM.out.mono ?_; rintro e w1 ⟨x, rfl, hx0, hx1, rfl⟩))
  go_ret
  exact ⟨rfl, rfl⟩
set_option maxRecDepth 100000 in
theorem setBits64_val {w : World} {b p : Nat} {acc form ex x : Int} {neg : Bool} {va : Value} {A : List Int} (h : FlB w b p acc form neg va ex A) (hp : 64 ≤ p) (hp2 : p ≤ 100000) (hx : Wd x) (hx0 : x ≠ 0) :
    Calls Tryz.prog 262 #[.pointer (some ⟨b, 0, none⟩), .bool false, .int .u64 x] w fun e w' => e = .returned (.pointer (some ⟨b, 0, none⟩)) ∧ Hid (∃ v l ex', FlB w' b p 0 1 false v ex' l ∧ Msb l ∧ l.length = 1 ∧ 1 ≤ ex' ∧ ex' ≤ 64 ∧ Fr (b :: vb va) w w' ∧ (∀ k, k ∈ vb v → k ∈ vb va ∨ w.heap.size ≤ k) ∧ ∃ s : Nat, ex' = 64 - (s : Int) ∧ 2 ^ 63 ≤ x * 2 ^ s ∧ x * 2 ^ s < 2 ^ 64) := by
  obtain ⟨c0, c1, c2, c3, c4, c5, c6⟩ := h.cs
  have fz := h.bk.free
  have f0 := fz 0
  have f2 := fz 2
  have f3 := fz 3
  have f4 := fz 4
  obtain ⟨n0, n1, n2, n3⟩ := nlz_bd hx hx0
  obtain ⟨s, hs⟩ : ∃ s : Nat, nlzI x = s := ⟨(nlzI x).toNat, by omega⟩
  rw [hs] at n0 n1 n2 n3
  simp only [Int.toNat_natCast] at n2 n3
  have hlz : Hid (∀ u, Calls Tryz.prog 277 #[.int .u64 x] u fun e w' => e = .returned (.int .i64 (s : Int)) ∧ u = w') := fun u => by rw [← hs]; exact lz64_any hx
  have e0 : ((p : Int) == 0) = false := beq_eq_false_iff_ne.2 (by omega)
  have e1 : (x == 0) = false := beq_eq_false_iff_ne.2 hx0
  have e2 : IntKind.u64.wrap (s : Int) = s := wrapW ⟨by omega, by omega⟩
  have e3 : min s 64 = s := by omega
  have e5 : IntKind.i64.wrap (64 - (s : Int)) = 64 - (s : Int) := IntWalk.i64_in _ (by omega)
  have e6 : IntKind.i32.wrap (64 - (s : Int)) = 64 - (s : Int) := i32_in (by omega) (by omega)
  have hplt : decide ((p : Int) < 64) = false := decide_eq_false (by omega)
  have hplt2 : ¬ ((p : Int) < 64) := by omega
  have hw : Wd (x * 2 ^ s) := ⟨Int.mul_nonneg hx.1 (Int.le_of_lt (Int.pow_pos (by omega))), n3⟩
  have e4 : IntKind.u64.wrap (x * 2 ^ s) = x * 2 ^ s := wrapW hw
  have hb4 := (((h.setAcc 0).setNeg false).setForm 1)
  have HW4 : Hid (Fr [b] w (((w.setCell ⟨b, 2, none⟩ (.int .i8 0)).setCell ⟨b, 4, none⟩ (.bool false)).setCell ⟨b, 3, none⟩ (.int .u8 1))) := (((Fr.refl [b] w).set _ _ (by simp)).set _ _ (by simp)).set _ _ (by simp)
  have HB4 := Lib.hid hb4
  have hc5 : (((w.setCell ⟨b, 2, none⟩ (.int .i8 0)).setCell ⟨b, 4, none⟩ (.bool false)).setCell ⟨b, 3, none⟩ (.int .u8 1)).cell? ⟨b, 5, none⟩ = some va := hb4.cs.c5
  have HSU := Lib.hid (setUint64_sl hb4.av hw)
  have HLT := Lib.hid h.bk.lt
  have HAP := Lib.hid h.ap
  have HCP := Lib.hid h.cap
  have HN2 := Lib.hid n2
  have HN23 := Lib.hid (And.intro n2 n3)
  have HX := Lib.hid hs
  clear h hb4 n2 n3 hs fz hw
  go_enter Tryz.func262, Tryz.ntmps262
  go_upto_region 10 with (go_at_call 277; refine (hlz.out _).mono ?_; rintro e w1 ⟨rfl, rfl⟩)
  generalize ((w.setCell ⟨b, 2, none⟩ (.int .i8 0)).setCell ⟨b, 4, none⟩ (.bool false)).setCell ⟨b, 3, none⟩ (.int .u8 1) = W4 at *
  have HFC : Hid (∀ (w1 : World) a n c l, Hid (NatV w1 (.slice a n c) l ∧ Nrm l ∧ val l = x * 2 ^ s ∧ Fr (vb va) W4 w1 ∧ (∀ k, k ∈ vb (.slice a n c) → k ∈ vb va ∨ W4.heap.size ≤ k) ∧ (capOf va ≤ 9223372036854775807 → capOf (.slice a n c) ≤ 9223372036854775807)) → (w1.frozen? ⟨b, 5, none⟩ = false ∧ w1.cell? ⟨b, 5, none⟩ = some va ∧ w1.cell? ⟨b, 0, none⟩ = some (.int .u32 p) ∧ w1.cell? ⟨b, 6, none⟩ = some (.int .i32 ex) ∧ w1.frozen? ⟨b, 6, none⟩ = false)) := fun w1 a n c l hh => by
    have hb := hh.out.2.2.2.1.bk HB4.out.bk HAP.out
    exact ⟨hb.free 5, by rw [hb.cell]; rfl, by rw [hb.cell]; rfl, by rw [hb.cell]; rfl, hb.free 6⟩
  go_wp2_with (go_at_call 84; refine HSU.out.mono ?_; rintro e w1 ⟨a, n, c, l, rfl, h1⟩; have h2 := HFC.out w1 a n c l h1; obtain ⟨g1, g2, g3, g4, g5⟩ := h2)
  go_ret
  obtain ⟨q1, q2, q3, q4, q5, q6⟩ := h1.out
  have hb := q4.bk HB4.out.bk HAP.out
  have hlt := HLT.out
  have hsz := HW4.out.size
  have hap : b ∉ vb (.slice a n c) := fun hk => by
    rcases q5 b hk with h | h
    · exact HAP.out h
    · omega
  have hM := FlB.setMant (A := A) hb q1 hap (q6 HCP.out)
  refine ⟨rfl, .slice a n c, l, 64 - (s : Int), hM.setExp _, ?_, ?_, by omega, by omega, ?_, ?_, s, rfl, HN23.out.1, HN23.out.2⟩
  · have hl1 : l.length = 1 := by
      have h4 := len_le_of_val q2 q1.ws (n := 1) (by rw [q3, BB_one]; exact (by have := HN2.out; have := e4; rw [wrap_mod] at this; have := Int.emod_lt_of_pos (x * 2 ^ s) (show (0:Int) < 18446744073709551616 by omega); omega))
      rcases l with _ | ⟨y, t⟩
      · simp only [val] at q3
        have := HN2.out
        omega
      · simp at h4 ⊢
        omega
    exact ⟨by omega, by rw [hl1, BB_one, q3]; have := HN2.out; omega⟩
  · have h4 := len_le_of_val q2 q1.ws (n := 1) (by rw [q3, BB_one]; exact (by have := e4; rw [wrap_mod] at this; have := Int.emod_lt_of_pos (x * 2 ^ s) (show (0:Int) < 18446744073709551616 by omega); omega))
    rcases l with _ | ⟨y, t⟩
    · simp only [val] at q3
      have := HN2.out
      omega
    · simp at h4 ⊢
      omega
  · exact ((((HW4.out.mono (by simp)).trans q4 (fun x hx => .inl (by simp [hx]))).set _ _ (by simp)).set _ _ (by simp))
  · intro k hk
    rcases q5 k hk with h | h
    · exact .inl h
    · exact .inr (by omega)
theorem setU64_val {w : World} {b p : Nat} {acc form ex x : Int} {neg : Bool} {va : Value} {A : List Int} (h : FlB w b p acc form neg va ex A) (hp : 64 ≤ p) (hp2 : p ≤ 100000) (hx : Wd x) (hx0 : x ≠ 0) :
    Calls Tryz.prog 236 #[.pointer (some ⟨b, 0, none⟩), .int .u64 x] w fun e w' => e = .returned (.pointer (some ⟨b, 0, none⟩)) ∧ Hid (∃ v l ex', FlB w' b p 0 1 false v ex' l ∧ Msb l ∧ l.length = 1 ∧ 1 ≤ ex' ∧ ex' ≤ 64 ∧ Fr (b :: vb va) w w' ∧ (∀ k, k ∈ vb v → k ∈ vb va ∨ w.heap.size ≤ k) ∧ ∃ s : Nat, ex' = 64 - (s : Int) ∧ 2 ^ 63 ≤ x * 2 ^ s ∧ x * 2 ^ s < 2 ^ 64) := by
  have H := Lib.hid (setBits64_val h hp hp2 hx hx0)
  clear h
  go_enter Tryz.func236, Tryz.ntmps236
  go_wp2_with (go_at_call 262; refine H.out.mono ?_; rintro e w1 ⟨rfl, h1⟩)
  go_ret
  exact ⟨rfl, h1⟩
theorem setU64_any {w : World} {b p : Nat} {acc form ex x : Int} {neg : Bool} {va : Value} {A : List Int} (h : FlB w b p acc form neg va ex A) (hp : 64 ≤ p) (hp2 : p ≤ 100000) (hx : Wd x) (hx0 : x ≠ 0) :
    Calls Tryz.prog 236 #[.pointer (some ⟨b, 0, none⟩), .int .u64 x] w fun e w' => e = .returned (.pointer (some ⟨b, 0, none⟩)) ∧ Hid (∃ v l ex', FlB w' b p 0 1 false v ex' l ∧ Msb l ∧ l.length = 1 ∧ 1 ≤ ex' ∧ ex' ≤ 64 ∧ Fr (b :: vb va) w w' ∧ (∀ k, k ∈ vb v → k ∈ vb va ∨ w.heap.size ≤ k)) := by
  refine (setU64_val h hp hp2 hx hx0).mono ?_
  rintro e w' ⟨rfl, h1⟩
  obtain ⟨v, l, ex', g1, g2, g3, g4, g5, g6, g7, _⟩ := h1.out
  exact ⟨rfl, v, l, ex', g1, g2, g3, g4, g5, g6, g7⟩
set_option maxRecDepth 100000 in
theorem pow5_small {E : Value} {w : World} {b p n : Nat} {acc form ex : Int} {neg : Bool} {va : Value} {A : List Int} (hG : Glb E w) (h : FlB w b p acc form neg va ex A) (hp : 64 ≤ p) (hp2 : p ≤ 100000) (hn : n ≤ 27) :
    Calls Tryz.prog 197 #[.pointer (some ⟨b, 0, none⟩), .int .u64 (n : Int)] w fun e w' => e = .returned (.pointer (some ⟨b, 0, none⟩)) ∧ Hid (∃ v l ex', FlB w' b p 0 1 false v ex' l ∧ Msb l ∧ l.length = 1 ∧ 1 ≤ ex' ∧ ex' ≤ 64 ∧ Fr (b :: vb va) w w' ∧ (∀ k, k ∈ vb v → k ∈ vb va ∨ w.heap.size ≤ k)) := by
  have hg := hG.g12 n (by omega)
  have h5 : Hid ((0 : Int) < 5 ^ n ∧ (5 : Int) ^ n < 18446744073709551616) := ⟨Int.pow_pos (by omega), by
    have h1 : 5 ^ n ≤ 5 ^ 27 := Nat.pow_le_pow_right (by omega) hn
    have h2 : (5 : Int) ^ n = ((5 ^ n : Nat) : Int) := by push_cast; rfl
    omega⟩
  obtain ⟨x, hx⟩ : ∃ x : Int, (5 : Int) ^ n = x := ⟨_, rfl⟩
  rw [hx] at hg h5
  have H := Lib.hid (setU64_any h hp hp2 (x := x) ⟨by have := h5.out; omega, by have := h5.out; omega⟩ (by have := h5.out; omega))
  have e1 : decide ((n : Int) ≤ 27) = true := decide_eq_true (by omega)
  have hn28 : (n : Int) < 28 := by omega
  have hn0 : (0 : Int) ≤ (n : Int) := by omega
  clear h hx hG
  go_enter Tryz.func197, Tryz.ntmps197
  go_wp2_with (go_at_call 236; refine H.out.mono ?_; rintro e w1 ⟨rfl, h1⟩)
  go_ret
  exact ⟨rfl, h1⟩
end Go.Proofs.YtfbbkngonohlkaaGreatDoor
