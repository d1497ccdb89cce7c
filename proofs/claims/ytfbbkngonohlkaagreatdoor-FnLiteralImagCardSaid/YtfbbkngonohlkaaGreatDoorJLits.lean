/- Joined texts: Mfl2, Lits, Lit, LawI. -/
import Derived.Test.YtfbbkngonohlkaaGreatDoorJFPar
import Derived.Test.YtfbbkngonohlkaaGreatDoorJRat
import Derived.Test.YtfbbkngonohlkaaGreatDoorJHex
import Derived.Test.YtfbbkngonohlkaaGreatDoorJSpA
import Derived.Test.YtfbbkngonohlkaaGreatDoorJSpF
import Derived.Test.YtfbbkngonohlkaaGreatDoorJImpl
import Derived.Test.YtfbbkngonohlkaaGreatDoorJNorm
import Derived.Test.YtfbbkngonohlkaaGreatDoorJSpE
/- makeFloatFromLiteral of a text with a mantissa alone. -/
namespace Go.Proofs.YtfbbkngonohlkaaGreatDoor
open Go Go.RowKit
set_option linter.unusedVariables false
set_option linter.unusedSimpArgs false
/-- nat.scan of a decimal mantissa does what is asked. -/
theorem scC_ten {E : Value} {rd : Nat} {s : ByteArray} {M : List Nat} {c n : Nat} {d k : Int} (hE : IsE E) (hrd : 16 ≤ rd) (hM : MOk M) (hT : MTxt s M) (hl : s.size = M.length) (hm : mSt M = (c, n, d)) (hk : k = if 0 ≤ d then d - c else c) : ScC E rd s 10 k n := by
  intro u hr hg
  refine (scan10_any hE hg (NatV.nil u) (by simp [capOf]) hrd (by simp [vb]) (by simp [vb]) hr hM hT hm hk).mono ?_
  rintro e w' ⟨v, l, rfl, h1, h2, h3, h4, h5, h6, h7⟩
  rw [← hl] at h5
  exact ⟨v, l, rfl, h1, h2, h3, h4, h5, h6.mono (by simp [vb]), fun q hq => (h7 q hq).resolve_left (by simp [vb])⟩
theorem scC_hex {E : Value} {rd : Nat} {s : ByteArray} {D : List Nat} {g : Bool} (hE : IsE E) (hrd : 16 ≤ rd) (hT : HTxt s D g) : ScC E rd s 16 (D.length : Int) (hval D) := by
  intro u hr hg
  exact scan16_any hE hg hrd hr hT
theorem scC_zero {E : Value} {rd : Nat} (hE : IsE E) (hrd : 16 ≤ rd) : ScC E rd ⟨#[48]⟩ 10 1 0 := by
  refine scC_ten (M := [48]) (c := 1) (d := -1) hE hrd ⟨fun j hj => ?_, fun j hj => ?_, by simp, fun _ => by simp, by simp⟩ ⟨by simp [ByteArray.size], fun j hj hj' => ?_, fun h => ?_, by simp [ByteArray.size]⟩ rfl rfl (by simp)
  · have : j = 0 := by simp at hj; omega
    subst this
    right
    simp
  · have : j = 0 := by simp at hj; omega
    subst this
    simp
  · have : j = 0 := by simp at hj; omega
    subst this
    rfl
  · simp [ByteArray.size] at h
theorem FRes.fr {S : List Nat} {w w' : World} {fb n : Nat} (h : FRes w fb n) (hf : Fr S w w') (h1 : S = []) : FRes w' fb n := by
  subst h1
  obtain ⟨acc, form, ex, va, A, a1, a2⟩ := h
  exact ⟨acc, form, ex, va, A, a1.fr hf (by simp) (by simp), a2⟩
theorem zero_gcd {p : Nat} : (0 / Nat.gcd 0 (10 ^ p) = 0 / Nat.gcd 0 (10 ^ 0)) ∧ (10 ^ p / Nat.gcd 0 (10 ^ p) = 10 ^ 0 / Nat.gcd 0 (10 ^ 0)) := by
  simp [Nat.gcd_zero_left, Nat.div_self (show 0 < 10 ^ p from Nat.pow_pos (by omega))]
set_option maxRecDepth 100000 in
set_option maxHeartbeats 1000000 in
theorem mfl_any {E : Value} {w : World} {s : ByteArray} {bs k : Int} {n p : Nat} {LA LB : List Int} (hE : IsE E) (hG : Glb E w) (hs0 : 0 < s.size) (hs : s.size ≤ 100000) (hd : s[0].toNat ≤ 57) (hp : s[0].toNat ≠ 43) (hm : s[0].toNat ≠ 45)
    (hsl : ∀ i (h : i < s.size), s[i].toNat ≠ 47) (hn : n < 18446744073709551616) (hk : (0 ≤ k ∧ p = 0) ∨ (k = -(p : Int) ∧ 1 ≤ p ∧ p ≤ 27 ∧ bs = 10)) (hsc : ∀ rd, 16 ≤ rd → ScC E rd s bs k n)
    (hA : Ws LA ∧ Nrm LA ∧ val LA = ((n / Nat.gcd n (10 ^ p) : Nat) : Int)) (hB : Ws LB ∧ Nrm LB ∧ val LB = ((10 ^ p / Nat.gcd n (10 ^ p) : Nat) : Int)) :
    Calls Tryz.prog 39 #[.string s] w fun e w' => ∃ rb, e = .returned (.iface 120 (.agg #[.pointer (some ⟨rb, 0, none⟩)])) ∧ Hid (∃ va vb', RatB w' rb false false va vb' LA LB ∧ Fr [] w w') := by
  have h16 := hG.size
  have HNF := Lib.hid (newFloat_any (w := w))
  have HST : Hid (∀ w1, Hid (FlB w1 w.heap.size 512 0 0 false (.slice none 0 0) 0 [] ∧ Fr [] w w1) → Hid (Calls Tryz.prog 62 #[.pointer (some ⟨w.heap.size, 0, none⟩), .string s] w1 fun e w' => e = .returned (.tuple #[.pointer (some ⟨w.heap.size, 0, none⟩), .bool true]) ∧ Hid (Fr [] w w' ∧ FRes w' w.heap.size n))) := fun w1 hh => by
    obtain ⟨q1, q2⟩ := hh.out
    refine (fset_any hE (hG.fr q2 (by simp)) q1 h16 hs0 hs hd hp hm hn (hk.elim (fun h => .inl h.1) (fun h => .inr h)) hsc).mono ?_
    rintro e w' ⟨rfl, hr⟩
    exact ⟨rfl, q2.trans hr.out.1 (by simp), hr.out.2⟩
  have HSM : Hid (∀ w2, Hid (Fr [] w w2 ∧ FRes w2 w.heap.size n) → Hid (Calls Tryz.prog 63 #[.pointer (some ⟨w.heap.size, 0, none⟩)] w2 fun e w' => e = .returned (.bool true) ∧ w2 = w')) := fun w2 hh => by
    obtain ⟨acc, form, ex, va, A, a1, a2, a3, a4, a5⟩ := hh.out.2
    exact smallFloat_any a1 a2 a4 a5
  have HSG : Hid (∀ w2, Hid (Fr [] w w2 ∧ FRes w2 w.heap.size n) → Hid (Calls Tryz.prog 64 #[.pointer (some ⟨w.heap.size, 0, none⟩)] w2 fun e w' => e = .returned (.int .i64 (if n = 0 then 0 else 1)) ∧ w2 = w')) := fun w2 hh => by
    obtain ⟨acc, form, ex, va, A, a1, a2, a3, a4, a5⟩ := hh.out.2
    have := fsign_any a1
    by_cases h : n = 0
    · rw [if_pos (a3.2 h)] at this
      rw [if_pos h]
      exact this
    · rw [if_neg (fun e => h (a3.1 e))] at this
      rw [if_neg h]
      exact this
  have HNR := fun u : World => Lib.hid (newRat_any (w := u))
  have HRS : Hid (∀ w2 (lit : ByteArray), lit = (if n = 0 then ⟨#[48]⟩ else s) → Hid (Fr [] w w2 ∧ FRes w2 w.heap.size n) → Hid (Calls Tryz.prog 66 #[.pointer (some ⟨w2.heap.size, 0, none⟩), .string lit] (w2.alloc (.cells #[.bool false, .slice none 0 0, .bool false, .slice none 0 0] 160)) fun e w' => e = .returned (.tuple #[.pointer (some ⟨w2.heap.size, 0, none⟩), .bool true]) ∧ Hid (∃ va vb', RatB w' w2.heap.size false false va vb' LA LB ∧ Fr [] w w'))) := fun w2 lit hl hh => by
    obtain ⟨q1, q2⟩ := hh.out
    have hsz := q1.size
    have hf : Fr [] w (w2.alloc (.cells #[.bool false, .slice none 0 0, .bool false, .slice none 0 0] 160)) := q1.alloc _
    have hfin : ∀ {w' : World}, (∃ va vb' A B, RatB w' w2.heap.size false false va vb' A B ∧ val A = ((n / Nat.gcd n (10 ^ p) : Nat) : Int) ∧ val B = ((10 ^ p / Nat.gcd n (10 ^ p) : Nat) : Int) ∧ Fr [w2.heap.size] (w2.alloc (.cells #[.bool false, .slice none 0 0, .bool false, .slice none 0 0] 160)) w') → ∃ va vb', RatB w' w2.heap.size false false va vb' LA LB ∧ Fr [] w w' := by
      rintro w' ⟨va, vb', A, B, r1, r2, r3, r4⟩
      have eA : A = LA := nrm_inj r1.an hA.2.1 r1.av.ws hA.1 (by rw [r2, hA.2.2])
      have eB : B = LB := nrm_inj r1.bn hB.2.1 r1.bv.ws hB.1 (by rw [r3, hB.2.2])
      subst eA
      subst eB
      exact ⟨va, vb', r1, hf.trans r4 (fun x hx => .inr (by simp at hx; omega))⟩
    by_cases h : n = 0
    · rw [if_pos h] at hl
      subst hl
      refine (rat_set (p := 0) (n := 0) (k := 1) (base := 10) hE (hG.fr hf (by simp)) (by omega) (Bk.new w2 160 _) (by simp [ByteArray.size]) (by simp [ByteArray.size]) (fun i hi => ?_) (by decide) (by decide) (by omega) (.inl ⟨by omega, rfl⟩) (fun u b hr hb hg => scC_zero hE hb u hr hg)).mono ?_
      · have : i = 0 := by simp [ByteArray.size] at hi; omega
        subst this
        change (48 : UInt8).toNat ≠ 47
        decide
      · rintro e w' ⟨rfl, hr⟩
        obtain ⟨va, vb', A, B, r1, r2, r3, r4⟩ := hr.out
        refine ⟨rfl, Lib.hid (hfin ⟨va, vb', A, B, r1, ?_, ?_, r4⟩)⟩
        · rw [r2, h]; exact congrArg Nat.cast (zero_gcd (p := p)).1.symm
        · rw [r3, h]; exact congrArg Nat.cast (zero_gcd (p := p)).2.symm
    · rw [if_neg h] at hl
      subst hl
      refine (rat_set hE (hG.fr hf (by simp)) (by omega) (Bk.new w2 160 _) hs0 hs hsl hp hm hn (hk.elim (fun h => .inl h) (fun h => .inr ⟨h.1, h.2.1, by omega, h.2.2.2⟩)) (fun u b hr hb hg => hsc b hb u hr hg)).mono ?_
      rintro e w' ⟨rfl, hr⟩
      exact ⟨rfl, Lib.hid (hfin hr.out)⟩
  clear hE hG hk hsc hA hB hd hp hm hsl
  by_cases h : n = 0
  · rw [if_pos h] at HSG HRS
    clear h
    go_enter Tryz.func39, Tryz.ntmps39
    go_wp2_with (first | (have hh := h3; go_at_call 66; refine (HRS.out w2 _ rfl h2).out.mono ?_; rintro e w4 ⟨rfl, h4⟩) | (have hh := h2; go_at_call 65; refine (HNR w2).out.mono ?_; rintro e w3 ⟨rfl, rfl⟩; have h3 := trivial) | (have hh := h2; go_at_call 64; refine (HSG.out w2 h2).out.mono ?_; rintro e w5 ⟨rfl, rfl⟩) | (have hh := h2; go_at_call 63; refine (HSM.out w2 h2).out.mono ?_; rintro e w5 ⟨rfl, rfl⟩) | (have hh := h1; go_at_call 62; refine (HST.out w1 h1).out.mono ?_; rintro e w2 ⟨rfl, h2⟩) | (go_at_call 61; refine HNF.out.mono ?_; rintro e w1 ⟨rfl, h1⟩))
    go_ret
    exact ⟨_, rfl, h4.out⟩
  · rw [if_neg h] at HSG HRS
    clear h
    go_enter Tryz.func39, Tryz.ntmps39
    go_wp2_with (first | (have hh := h3; go_at_call 66; refine (HRS.out w2 _ rfl h2).out.mono ?_; rintro e w4 ⟨rfl, h4⟩) | (have hh := h2; go_at_call 65; refine (HNR w2).out.mono ?_; rintro e w3 ⟨rfl, rfl⟩; have h3 := trivial) | (have hh := h2; go_at_call 64; refine (HSG.out w2 h2).out.mono ?_; rintro e w5 ⟨rfl, rfl⟩) | (have hh := h2; go_at_call 63; refine (HSM.out w2 h2).out.mono ?_; rintro e w5 ⟨rfl, rfl⟩) | (have hh := h1; go_at_call 62; refine (HST.out w1 h1).out.mono ?_; rintro e w2 ⟨rfl, h2⟩) | (go_at_call 61; refine HNF.out.mono ?_; rintro e w1 ⟨rfl, h1⟩))
    go_ret
    exact ⟨_, rfl, h4.out⟩
end Go.Proofs.YtfbbkngonohlkaaGreatDoor
/- The texts that the law makes are literals of their numbers. -/
namespace Go.Proofs.YtfbbkngonohlkaaGreatDoor
open Go Go.RowKit
set_option linter.unusedVariables false
set_option linter.unusedSimpArgs false
/-- The text t is a literal of n / 10^p. -/
structure LitOk (t : ByteArray) (n p : Nat) : Prop where
  pos : 0 < t.size
  size : t.size ≤ 1000
  fst : ∀ h : 0 < t.size, t[0].toNat ≤ 57 ∧ t[0].toNat ≠ 43 ∧ t[0].toNat ≠ 45
  nos : ∀ i (h : i < t.size), t[i].toNat ≠ 47
  lt : n < 18446744073709551616
  sc : ∃ bs k : Int, ((0 ≤ k ∧ p = 0) ∨ (k = -(p : Int) ∧ 1 ≤ p ∧ p ≤ 27 ∧ bs = 10)) ∧ ∀ E rd, IsE E → 16 ≤ rd → ScC E rd t bs k n
theorem byte_mem {t : ByteArray} {M : List Nat} (h : t.data.toList.map UInt8.toNat = M) {i : Nat} (hi : i < t.size) : t[i].toNat ∈ M := by
  subst h
  refine List.mem_map.2 ⟨t[i], ?_, rfl⟩
  show t.data[i] ∈ t.data.toList
  exact Array.mem_toList_iff.2 (Array.getElem_mem _)
theorem litOk_ten {t : ByteArray} {M : List Nat} {n p c : Nat} {d k : Int} (h : t.data.toList.map UInt8.toNat = M) (hl : M.length ≤ 300) (hM : MOk M) (hm : mSt M = (c, n, d)) (hk : k = if 0 ≤ d then d - c else c) (hp : (0 ≤ k ∧ p = 0) ∨ (k = -(p : Int) ∧ 1 ≤ p ∧ p ≤ 27)) (hn : n < 18446744073709551616) : LitOk t n p := by
  have hsz : t.size = M.length := by rw [← h, List.length_map]; rfl
  obtain ⟨_, hT⟩ := mTxt_of h (by omega)
  have hb : ∀ i (hi : i < t.size), t[i].toNat = 46 ∨ (48 ≤ t[i].toNat ∧ t[i].toNat ≤ 57) := fun i hi => by
    obtain ⟨j, hj, e⟩ := List.getElem_of_mem (byte_mem h hi)
    rw [← e]
    exact hM.dig j hj
  refine ⟨by rw [hsz]; exact hM.pos, by omega, fun h0 => ?_, fun i hi => ?_, hn, 10, k, ?_, fun E rd hE hrd => scC_ten hE hrd hM hT hsz hm hk⟩
  · have := hb 0 h0; omega
  · have := hb i hi; omega
  · rcases hp with h | ⟨h1, h2, h3⟩
    · exact .inl h
    · exact .inr ⟨h1, h2, h3, rfl⟩
theorem map_dig {D : List Nat} (h : ∀ d, d ∈ D → d < 10) : (D.map (fun d => UInt8.ofNat (48 + d))).map UInt8.toNat = D.map (fun d => 48 + d) := by
  rw [List.map_map]
  refine List.map_congr_left fun d hd => ?_
  have := h d hd
  simp [Nat.mod_eq_of_lt (show 48 + d < 256 by omega)]
/-- Figures alone. -/
theorem litOk_plain {t : ByteArray} {D : List Nat} {n : Nat} (h : t.data.toList = D.map (fun d => UInt8.ofNat (48 + d))) (hD : ∀ d, d ∈ D → d < 10) (h0 : 0 < D.length) (hl : D.length ≤ 200) (hv : D.foldl (fun a d => a * 10 + d) 0 = n) (hn : n < 18446744073709551616) : LitOk t n 0 := by
  have hM : t.data.toList.map UInt8.toNat = D.map (fun d => 48 + d) := by rw [h, map_dig hD]
  refine litOk_ten (p := 0) (k := (D.length : Int)) (c := D.length) (d := -1) hM (by simp; omega) (mOk_plain hD h0 (by omega)) ?_ (by simp) (.inl ⟨by omega, rfl⟩) hn
  rw [mSt_plain hD, hv]
/-- Figures with a point ahead of the last p of them. -/
theorem litOk_point {t : ByteArray} {D : List Nat} {n p : Nat} {P : List UInt8} (hP : P = D.map (fun d => UInt8.ofNat (48 + d))) (h : t.data.toList = P.take (P.length - p) ++ 46 :: P.drop (P.length - p)) (hD : ∀ d, d ∈ D → d < 10) (h0 : 0 < D.length) (hl : D.length ≤ 200) (hpl : p ≤ D.length) (hv : D.foldl (fun a d => a * 10 + d) 0 = n) (hn : n < 18446744073709551616) (hp : p ≤ 24) : LitOk t n p := by
  have hPl : P.length = D.length := by rw [hP, List.length_map]
  have hM : t.data.toList.map UInt8.toNat = ptxt D (D.length - p) := by
    rw [h, hPl, hP, List.map_append, List.map_cons, ← List.map_take, ← List.map_drop, map_dig (fun d hd => hD d (List.mem_of_mem_take hd)), map_dig (fun d hd => hD d (List.mem_of_mem_drop hd))]
    rfl
  have hlen : (ptxt D (D.length - p)).length = D.length + 1 := by unfold ptxt; simp; omega
  refine litOk_ten (p := p) (k := -(p : Int)) (c := D.length) (d := ((D.length - p : Nat) : Int)) hM (by omega) (mOk_ptxt hD (by omega) h0 (by omega)) ?_ ?_ ?_ hn
  · rw [mSt_ptxt hD (by omega), hv]
  · rw [if_pos (by omega)]; omega
  · rcases Nat.eq_zero_or_pos p with rfl | h
    · exact .inl ⟨by omega, rfl⟩
    · exact .inr ⟨rfl, h, by omega⟩
theorem hexc_byte {g : Bool} {d : Nat} (h : d < 16) : hexc g d < 256 ∧ hexc g d ≠ 47 := by
  unfold hexc
  split
  · omega
  · split <;> omega
/-- 0x and figures of base 16. -/
theorem litOk_hex {t : ByteArray} {D : List Nat} {n : Nat} {g : Bool} (h : t.data.toList = 48 :: 120 :: D.map (fun d => UInt8.ofNat (hexc g d))) (hD : ∀ d, d ∈ D → d < 16) (h0 : 0 < D.length) (hl : D.length ≤ 16) (hv : hval D = n) (hn : n < 18446744073709551616) : LitOk t n 0 := by
  have hsz : t.size = D.length + 2 := by
    have : t.size = t.data.toList.length := rfl
    rw [this, h]
    simp
  have hget : ∀ i (hi : i < t.size), t[i] = t.data.toList[i]'(hi) := fun i hi => rfl
  have g0 : ∀ hi : 0 < t.size, t[0].toNat = 48 := fun hi => by
    rw [hget 0 hi]
    simp only [h]
    rfl
  have g1 : ∀ hi : 1 < t.size, t[1].toNat = 120 := fun hi => by
    rw [hget 1 hi]
    simp only [h]
    rfl
  have gd : ∀ j (hj : j < D.length) (hi : j + 2 < t.size), t[j + 2].toNat = hexc g D[j] := fun j hj hi => by
    rw [hget (j + 2) hi]
    simp only [h]
    simp [Nat.mod_eq_of_lt (hexc_byte (g := g) (hD _ (List.getElem_mem hj))).1]
  refine ⟨by omega, by omega, fun hi => ?_, fun i hi => ?_, hn, 16, (D.length : Int), .inl ⟨by omega, rfl⟩, fun E rd hE hrd => ?_⟩
  · have := g0 hi; omega
  · match i, hi with
    | 0, hi => have := g0 hi; omega
    | 1, hi => have := g1 hi; omega
    | j + 2, hi =>
      rw [gd j (by omega) hi]
      exact (hexc_byte (hD _ (List.getElem_mem (by omega)))).2
  · rw [← hv]
    exact scC_hex hE hrd ⟨hsz, g0, g1, gd, hD, h0, hl⟩
/-- makeFloatFromLiteral of a literal. -/
theorem LitOk.mfl {E : Value} {w : World} {t : ByteArray} {n p : Nat} {LA LB : List Int} (h : LitOk t n p) (hE : IsE E) (hG : Glb E w) (hA : Ws LA ∧ Nrm LA ∧ val LA = ((n / Nat.gcd n (10 ^ p) : Nat) : Int)) (hB : Ws LB ∧ Nrm LB ∧ val LB = ((10 ^ p / Nat.gcd n (10 ^ p) : Nat) : Int)) :
    Calls Tryz.prog 39 #[.string t] w fun e w' => ∃ rb, e = .returned (.iface 120 (.agg #[.pointer (some ⟨rb, 0, none⟩)])) ∧ Hid (∃ va vb', RatB w' rb false false va vb' LA LB ∧ Fr [] w w') := by
  obtain ⟨bs, k, hk, hsc⟩ := h.sc
  obtain ⟨f1, f2, f3⟩ := h.fst h.pos
  have := h.size
  exact mfl_any hE hG h.pos (by omega) f1 f2 f3 h.nos h.lt hk (fun rd hrd => hsc E rd hE hrd) hA hB
/-- Digits of a number. -/
theorem digits_any {w : World} {a : Option Addr} {n c : Nat} {x : Nat} (ha : SD w (.slice a n c) x) (hx : x < 18446744073709551616) :
    Calls Tryz.prog 7 #[.slice a n c] w fun e w' => ∃ s : ByteArray, e = .returned (.string s) ∧ Hid (s.data.toList = (wfigs 10 x).map (fun d => UInt8.ofNat (48 + d)) ∧ Fr [] w w') := by
  rcases Nat.eq_zero_or_pos x with rfl | h0
  · have hn : n = 0 := by
      obtain ⟨a', n', c', e, h1, _⟩ := ha.form
      cases e
      exact h1.2 rfl
    subst hn
    refine digits_zero.mono ?_
    rintro e w' ⟨rfl, rfl⟩
    exact ⟨_, rfl, by simp [wfigs], Fr.refl _ _⟩
  · have hPP : (18446744073709551616 : Int) = PP 4 := by decide
    have hw : wfigs 10 x = figs 10 x := by unfold wfigs; rw [if_neg (by omega)]
    rw [hw]
    exact digits_yes ha h0 (N := 4) (by omega) (by omega) (Nat.le_trans (figs_len (by omega) 20 x (by omega)) (by omega))
set_option maxRecDepth 100000 in
theorem inBase_zero {w : World} {a : Option Addr} {c : Nat} {g : Bool} : Calls Tryz.prog 14 #[.slice a 0 c, .int .i64 16, .bool g] w fun e w' => e = .returned (.string ⟨#[48]⟩) ∧ w = w' := by
  cases g
  · go_enter Tryz.func14, Tryz.ntmps14
    go_wp2_with fail
    go_ret
    exact ⟨rfl, rfl⟩
  · go_enter Tryz.func14, Tryz.ntmps14
    go_wp2_with fail
    go_ret
    exact ⟨rfl, rfl⟩
theorem inBase_any {w : World} {a : Option Addr} {n c : Nat} {x : Nat} {g : Bool} (ha : SD w (.slice a n c) x) (hx : x < 18446744073709551616) :
    Calls Tryz.prog 14 #[.slice a n c, .int .i64 16, .bool g] w fun e w' => ∃ s : ByteArray, e = .returned (.string s) ∧ Hid (s.data.toList = (wfigs 16 x).map (fun d => UInt8.ofNat (hexc g d)) ∧ Fr [] w w') := by
  rcases Nat.eq_zero_or_pos x with rfl | h0
  · have hn : n = 0 := by
      obtain ⟨a', n', c', e, h1, _⟩ := ha.form
      cases e
      exact h1.2 rfl
    subst hn
    refine inBase_zero.mono ?_
    rintro e w' ⟨rfl, rfl⟩
    exact ⟨_, rfl, by simp [wfigs, hexc], Fr.refl _ _⟩
  · have hPP : (18446744073709551616 : Int) = PP 4 := by decide
    have hw : wfigs 16 x = figs 16 x := by unfold wfigs; rw [if_neg (by omega)]
    rw [hw]
    exact inBase_yes ha h0 (N := 4) (by omega) (by omega) (Nat.le_trans (figs_len (by omega) 16 x (by omega)) (by omega))
end Go.Proofs.YtfbbkngonohlkaaGreatDoor
/- impl.Literal of an imaginary literal, given what its number becomes. -/
namespace Go.Proofs.YtfbbkngonohlkaaGreatDoor
open Go Go.RowKit
set_option linter.unusedVariables false
set_option linter.unusedSimpArgs false
set_option maxRecDepth 100000 in
set_option maxHeartbeats 400000 in
theorem literal_imag {w : World} {s : ByteArray} {A B : List Int} (hs0 : 0 < s.size) (hs : s.size ≤ 100000) (hl : s[s.size - 1].toNat = 105) (hB0 : 0 < B.length) (lA : A.length ≤ 10000) (lB : B.length ≤ 10000)
    (hM : ∀ u, Fr [] w u → Calls Tryz.prog 39 #[.string (s.extract 0 (s.size - 1))] u fun e w' => ∃ rb, e = .returned (.iface 120 (.agg #[.pointer (some ⟨rb, 0, none⟩)])) ∧ Hid (∃ va vb', RatB w' rb false false va vb' A B ∧ Fr [] u w')) :
    Calls Tryz.prog 10 #[.string s, .int .i64 2] w fun e w' => ∃ a n c a2 n2 c2 a3 n3 c3 a4 n4 c4,
      e = .returned (.agg #[.int .i64 5, .bool false, .string ⟨#[]⟩, .bool false, .slice a n c, .slice a2 n2 c2, .bool false, .slice a3 n3 c3, .slice a4 n4 c4]) ∧
      Hid (SW w' (.slice a n c) [] ∧ SW w' (.slice a2 n2 c2) [1] ∧ SW w' (.slice a3 n3 c3) A ∧ SW w' (.slice a4 n4 c4) B ∧ Fr [] w w') := by
  have HM : Hid (∀ u, Fr [] w u → Hid (Calls Tryz.prog 23 #[.string s, .int .i64 7, .int .u64 0] u fun e w' => ∃ rb w1, e = .returned (.iface 124 (.agg #[.iface 82 (.int .i64 0), .iface 120 (.agg #[.pointer (some ⟨rb, 0, none⟩)])])) ∧ Hid ((∃ va vb', RatB w1 rb false false va vb' A B ∧ Fr [] u w1) ∧ Fr [] w1 w'))) := fun u hu =>
    mfl_imag (Post := fun rb w1 => ∃ va vb', RatB w1 rb false false va vb' A B ∧ Fr [] u w1) hs0 hs hl (hM u hu)
  have HT : Hid (∀ u rb w1 w2, Hid ((∃ va vb', RatB w1 rb false false va vb' A B ∧ Fr [] u w1) ∧ Fr [] w1 w2) → Hid (Calls Tryz.prog 22 #[.iface 124 (.agg #[.iface 82 (.int .i64 0), .iface 120 (.agg #[.pointer (some ⟨rb, 0, none⟩)])])] w2 fun e w' => ∃ a n c a2 n2 c2 a3 n3 c3 a4 n4 c4,
      e = .returned (.agg #[.int .i64 5, .bool false, .string ⟨#[]⟩, .bool false, .slice a n c, .slice a2 n2 c2, .bool false, .slice a3 n3 c3, .slice a4 n4 c4]) ∧
      Hid (SW w' (.slice a n c) [] ∧ SW w' (.slice a2 n2 c2) [1] ∧ SW w' (.slice a3 n3 c3) A ∧ SW w' (.slice a4 n4 c4) B ∧ Fr [] u w'))) := fun u rb w1 w2 h => by
    obtain ⟨⟨va, vb', q1, q2⟩, q3⟩ := h.out
    have hR := q1.fr q3 (by simp) (by simp) (by simp)
    refine (told_any hR.ca' hR.cb' hB0 lA lB).mono ?_
    rintro e w' ⟨a, n, c, a2, n2, c2, a3, n3, c3, a4, n4, c4, rfl, hh⟩
    obtain ⟨r1, r2, r3, r4, r5⟩ := hh.out
    exact ⟨a, n, c, a2, n2, c2, a3, n3, c3, a4, n4, c4, rfl, r1, r2, r3, r4, (q2.trans q3 (by simp)).trans r5 (by simp)⟩
  have HZ : Hid (∀ (O : Obj) u, Fr [] ((w.alloc z37).alloc O) u → Hid (Bk u w.heap.size 37 zl37) ∧ C9 u w.heap.size (.int .i64 0) (.bool false) (.string ⟨#[]⟩) (.bool false) (.slice none 0 0) (.slice none 0 0) (.bool false) (.slice none 0 0) (.slice none 0 0)) := fun O u hu => by
    have h := hu.bk ((Bk.new w 37 zl37).alloc O) (by simp)
    exact ⟨h, bk9 h⟩
  clear hM
  go_enter Tryz.func10, Tryz.ntmps10
  go_wp2_with (first | (have hh := h2; go_at_call 22; refine HT2.out.mono ?_; rintro e w3 ⟨a, n, c, a2, n2, c2, a3, n3, c3, a4, n4, c4, rfl, h3⟩; have hz := HZ.out (.cells #[.int .i64 5, .int .i64 6, .int .i64 7, .int .i64 8, .int .i64 9] 57) w3 h3.out.2.2.2.2; obtain ⟨hzb, hz9⟩ := hz; obtain ⟨y0, y1, y2, y3, y4, y5, y6, y7, y8, yf⟩ := hz9) | (go_at_call 23; refine (HM.out ((w.alloc z37).alloc (.cells #[.int .i64 5, .int .i64 6, .int .i64 7, .int .i64 8, .int .i64 9] 57)) (((Fr.refl [] w).alloc _).alloc _)).out.mono ?_; rintro e w2 ⟨rb, w1, rfl, h2⟩; have HT2 := HT.out ((w.alloc z37).alloc (.cells #[.int .i64 5, .int .i64 6, .int .i64 7, .int .i64 8, .int .i64 9] 57)) rb w1 w2 h2))
  obtain ⟨r1, r2, r3, r4, r5⟩ := h3.out
  have hbf := ((((((((hzb.out.set 0 (.int .i64 5)).set 1 (.bool false)).set 2 (.string ⟨#[]⟩)).set 3 (.bool false)).set 4 (.slice a n c)).set 5 (.slice a2 n2 c2)).set 6 (.bool false)).set 7 (.slice a3 n3 c3)).set 8 (.slice a4 n4 c4)
  refine bodyPost_ret (ret37 rfl rfl hbf) rfl ?_
  have f0 : Fr [] w w3 := (((Fr.refl [] w).alloc z37).alloc _).trans r5 (by simp)
  have fF : ∀ u S, (w.heap.size ∈ S ∨ u.heap.size ≤ w.heap.size) → Fr S u w3 → Fr S u (((((((((w3.setCell ⟨w.heap.size, 0, none⟩ (.int .i64 5)).setCell ⟨w.heap.size, 1, none⟩ (.bool false)).setCell ⟨w.heap.size, 2, none⟩ (.string ⟨#[]⟩)).setCell ⟨w.heap.size, 3, none⟩ (.bool false)).setCell ⟨w.heap.size, 4, none⟩ (.slice a n c)).setCell ⟨w.heap.size, 5, none⟩ (.slice a2 n2 c2)).setCell ⟨w.heap.size, 6, none⟩ (.bool false)).setCell ⟨w.heap.size, 7, none⟩ (.slice a3 n3 c3)).setCell ⟨w.heap.size, 8, none⟩ (.slice a4 n4 c4)) := fun u S hh h =>
    ((((((((h.set _ _ hh).set _ _ hh).set _ _ hh).set _ _ hh).set _ _ hh).set _ _ hh).set _ _ hh).set _ _ hh).set _ _ hh
  have n3' : ∀ {v : Value} {l : List Int}, SW w3 v l → ∀ k, k ∈ vb v → k ∉ [w.heap.size] := fun h k hk hm => by
    have := h.ne hzb.out (by decide) k hk
    simp at hm; omega
  have g := fF w3 [w.heap.size] (.inl (by simp)) (Fr.refl _ _)
  exact ⟨_, _, _, _, _, _, _, _, _, _, _, _, rfl, r1.fr' g (n3' r1), r2.fr' g (n3' r2), r3.fr' g (n3' r3), r4.fr' g (n3' r4), fF w [] (.inr (Nat.le_refl _)) f0⟩
end Go.Proofs.YtfbbkngonohlkaaGreatDoor
/- The law of imaginary literals: for every input the law's code returns true, and nothing that was there has changed. -/
namespace Go.Proofs.YtfbbkngonohlkaaGreatDoor
open Go Go.RowKit
set_option linter.unusedVariables false
set_option linter.unusedSimpArgs false
theorem ext_app (t : ByteArray) : (t ++ (⟨#[105]⟩ : ByteArray)).size = t.size + 1 ∧ (t ++ (⟨#[105]⟩ : ByteArray)).extract 0 t.size = t ∧ (t ++ (⟨#[105]⟩ : ByteArray)).data.toList = t.data.toList ++ [105] := by
  have h1 : (t ++ (⟨#[105]⟩ : ByteArray)).data.toList = t.data.toList ++ [105] := by rw [ByteArray.data_append, Array.toList_append]
  have h2 : (t ++ (⟨#[105]⟩ : ByteArray)).size = t.size + 1 := by
    rw [size_toList, h1, List.length_append, ← size_toList]; rfl
  refine ⟨h2, ?_, h1⟩
  have h3 : ((t ++ (⟨#[105]⟩ : ByteArray)).extract 0 t.size).data.toList = t.data.toList := by
    rw [extract_toList, h1, List.drop_zero, size_toList, List.take_left]
  have h4 := Array.toList_inj.1 h3
  cases hx : (t ++ (⟨#[105]⟩ : ByteArray)).extract 0 t.size with
  | mk d =>
    rw [hx] at h4
    cases t with
    | mk d' => simp at h4; rw [h4]
theorem last_app (t : ByteArray) (h : (t ++ (⟨#[105]⟩ : ByteArray)).size - 1 < (t ++ (⟨#[105]⟩ : ByteArray)).size) : ((t ++ (⟨#[105]⟩ : ByteArray))[(t ++ (⟨#[105]⟩ : ByteArray)).size - 1]).toNat = 105 := by
  obtain ⟨h1, _, h3⟩ := ext_app t
  have e : (t ++ (⟨#[105]⟩ : ByteArray))[(t ++ (⟨#[105]⟩ : ByteArray)).size - 1] = (t ++ (⟨#[105]⟩ : ByteArray)).data.toList[(t ++ (⟨#[105]⟩ : ByteArray)).size - 1]'h := rfl
  rw [e]
  simp only [h3, h1, Nat.add_sub_cancel]
  rw [List.getElem_append_right (by rw [← size_toList]; exact Nat.le_refl _)]
  have e2 : t.size - t.data.toList.length = 0 := by rw [← size_toList]; omega
  simp only [e2]
  rfl
/-- impl.Literal of a literal with an i behind it. -/
theorem literal_i {E : Value} {w : World} {t : ByteArray} {n p : Nat} {LA LB : List Int} (h : LitOk t n p) (hE : IsE E) (hG : Glb E w) (hA : Ws LA ∧ Nrm LA ∧ val LA = ((n / Nat.gcd n (10 ^ p) : Nat) : Int)) (hB : Ws LB ∧ Nrm LB ∧ val LB = ((10 ^ p / Nat.gcd n (10 ^ p) : Nat) : Int)) (hB0 : 0 < LB.length) (lA : LA.length ≤ 10000) (lB : LB.length ≤ 10000) :
    Calls Tryz.prog 10 #[.string (t ++ ⟨#[105]⟩), .int .i64 2] w fun e w' => ∃ a n c a2 n2 c2 a3 n3 c3 a4 n4 c4,
      e = .returned (.agg #[.int .i64 5, .bool false, .string ⟨#[]⟩, .bool false, .slice a n c, .slice a2 n2 c2, .bool false, .slice a3 n3 c3, .slice a4 n4 c4]) ∧
      Hid (SW w' (.slice a n c) [] ∧ SW w' (.slice a2 n2 c2) [1] ∧ SW w' (.slice a3 n3 c3) LA ∧ SW w' (.slice a4 n4 c4) LB ∧ Fr [] w w') := by
  obtain ⟨h1, h2, h3⟩ := ext_app t
  have hsz := h.size
  refine literal_imag (by omega) (by omega) (last_app t _) hB0 lA lB (fun u hu => ?_)
  rw [h1, Nat.add_sub_cancel, h2]
  exact h.mfl hE (hG.fr hu (by simp)) hA hB
/-- A fraction's cells, in block g. -/
def VB (w : World) (g : Nat) (x y : Int) : Prop := ∃ a n c b m d, Bk w g 40 [.bool false, .slice a n c, .slice b m d] ∧ SD w (.slice a n c) x ∧ SD w (.slice b m d) y
theorem gcd_cast (n p : Nat) : ((n : Int) * 1 / Int.gcd ((n : Int) * 1) (1 * (10 : Int) ^ p) = ((n / Nat.gcd n (10 ^ p) : Nat) : Int)) ∧ (1 * (10 : Int) ^ p / Int.gcd ((n : Int) * 1) (1 * (10 : Int) ^ p) = ((10 ^ p / Nat.gcd n (10 ^ p) : Nat) : Int)) := by
  have e : (10 : Int) ^ p = ((10 ^ p : Nat) : Int) := by push_cast; rfl
  rw [Int.mul_one, Int.one_mul, e]
  constructor <;> simp [Int.gcd]
theorem whole_gcd (n : Nat) : ((n : Int) = ((n / Nat.gcd n (10 ^ 0) : Nat) : Int)) ∧ ((1 : Int) = ((10 ^ 0 / Nat.gcd n (10 ^ 0) : Nat) : Int)) := by simp
/-- What holds when the text and the fraction are made. -/
structure LwS (w wx : World) (g : Nat) (t : ByteArray) (n p : Nat) : Prop where
  lit : LitOk t n p
  p24 : p ≤ 24
  v : VB wx g ((n / Nat.gcd n (10 ^ p) : Nat) : Int) ((10 ^ p / Nat.gcd n (10 ^ p) : Nat) : Int)
  fr : Fr [] w wx
theorem RV.sl {w : World} {v : Value} {x y : Int} (h : RV w v x y) : ∃ a n c b m d, v = .agg #[.bool false, .slice a n c, .slice b m d] ∧ SD w (.slice a n c) x ∧ SD w (.slice b m d) y := h
theorem times_sl {w : World} {a b a' b' : Option Addr} {n c m d n' c' m' d' : Nat} {q p : Nat} (hx : SD w (.slice a n c) (q : Int)) (hy : SD w (.slice b m d) 1) (hx' : SD w (.slice a' n' c') 1) (hy' : SD w (.slice b' m' d') ((10 : Int) ^ p)) (hq : q < 18446744073709551616) (hp : p ≤ 24) :
    Calls Tryz.prog 11 #[.agg #[.bool false, .slice a n c, .slice b m d], .agg #[.bool false, .slice a' n' c', .slice b' m' d']] w fun e w' => ∃ a n c b m d, e = .returned (.agg #[.bool false, .slice a n c, .slice b m d]) ∧ Hid (SD w' (.slice a n c) ((q / Nat.gcd q (10 ^ p) : Nat) : Int) ∧ SD w' (.slice b m d) ((10 ^ p / Nat.gcd q (10 ^ p) : Nat) : Int) ∧ Fr [] w w') := by
  have hP4 : (18446744073709551616 : Int) ≤ PP 1000 := by
    have h1 : (18446744073709551616 : Int) = PP 4 := by decide
    rw [h1]
    exact PP_mono (by omega)
  have h10 := pow_lt_PP (b := 10) (n := p) (by omega) (by omega) (by omega)
  have h10p : (0 : Int) < 10 ^ p := Int.pow_pos (by omega)
  obtain ⟨g1, g2⟩ := gcd_cast q p
  refine (times_yes (N := 1000) hx hy hx' hy' (by omega) (by omega) (by omega) (by omega) h10 (by omega) (by omega) (by omega)).mono ?_
  rintro e w' ⟨r, rfl, h⟩
  obtain ⟨a, n, c, b, m, d, rfl, r1, r2⟩ := h.out.1.sl
  rw [g1] at r1
  rw [g2] at r2
  exact ⟨a, n, c, b, m, d, rfl, r1, r2, h.out.2⟩
theorem power_ten {w : World} {mv : Int} {p : Nat} (hm : mv = -(p : Int)) (hp : p ≤ 24) : Calls Tryz.prog 13 #[.int .i64 10, .int .i64 mv] w fun e w' => ∃ a n c b m d, e = .returned (.agg #[.bool false, .slice a n c, .slice b m d]) ∧ Hid (SD w' (.slice a n c) 1 ∧ SD w' (.slice b m d) ((10 : Int) ^ p) ∧ Fr [] w w') := by
  subst hm
  rcases Nat.eq_zero_or_pos p with rfl | h0
  · refine (powerOf_pos (w := w) (b := 10) (p := 0) (by omega) (by omega) (by omega)).mono ?_
    rintro e w' ⟨r, rfl, h⟩
    obtain ⟨a, n, c, b, m, d, rfl, r1, r2⟩ := h.out.1.sl
    exact ⟨a, n, c, b, m, d, rfl, r1, r2, h.out.2⟩
  · refine (powerOf_neg (w := w) (b := 10) (p := p) (by omega) (by omega) (by omega) h0).mono ?_
    rintro e w' ⟨r, rfl, h⟩
    obtain ⟨a, n, c, b, m, d, rfl, r1, r2⟩ := h.out.1.sl
    exact ⟨a, n, c, b, m, d, rfl, r1, r2, h.out.2⟩
theorem pointed_lit {w : World} {s : ByteArray} {q p : Nat} (hs : s.data.toList = (wfigs 10 q).map (fun d => UInt8.ofNat (48 + d))) (hq : q < 18446744073709551616) (hp : p ≤ 24) :
    Calls Tryz.prog 6 #[.string s, .int .i64 (p : Int)] w fun e w' => ∃ t : ByteArray, e = .returned (.string t) ∧ Hid (LitOk t q p ∧ Fr [] w w') := by
  have hl := wfigs_len (b := 10) (by omega) (k := 20) (x := q) (by omega) (by omega)
  have hl0 := wfigs_ne (b := 10) (x := q) (by omega)
  have hsz : s.size = (wfigs 10 q).length := by rw [size_toList, hs, List.length_map]
  refine (pointed_any (s := s) (k := p) (by omega) (by omega) (by omega)).mono ?_
  rintro e w' ⟨t, rfl, h1, h2⟩
  refine ⟨t, rfl, litOk_point (D := List.replicate (p - s.size) 0 ++ wfigs 10 q) (P := List.replicate (p - s.size) 48 ++ s.data.toList) ?_ (h1.out _ rfl) (fun d hd => ?_) (by simp; omega) (by simp; omega) (by simp; omega) ?_ hq hp, h2⟩
  · rw [hs, List.map_append, List.map_replicate]
    rfl
  · rcases List.mem_append.1 hd with h | h
    · have := List.eq_of_mem_replicate h; omega
    · exact wfigs_lt (by omega) q d h
  · rw [zeros_val, wfigs_val (by omega)]
theorem plain_lit {s : ByteArray} {q : Nat} (hs : s.data.toList = (wfigs 10 q).map (fun d => UInt8.ofNat (48 + d))) (hq : q < 18446744073709551616) : LitOk s q 0 ∧ LitOk ((⟨#[48]⟩ : ByteArray) ++ s) q 0 := by
  have hl := wfigs_len (b := 10) (by omega) (k := 20) (x := q) (by omega) (by omega)
  have hl0 := wfigs_ne (b := 10) (x := q) (by omega)
  refine ⟨litOk_plain hs (wfigs_lt (by omega) q) hl0 (by omega) (wfigs_val (by omega) q) hq, litOk_plain (D := 0 :: wfigs 10 q) ?_ (fun d hd => ?_) (by simp) (by simp; omega) ?_ hq⟩
  · rw [ByteArray.data_append, Array.toList_append, hs]; rfl
  · rcases List.mem_cons.1 hd with h | h
    · omega
    · exact wfigs_lt (by omega) q d h
  · rw [List.foldl_cons]
    have := wfigs_val (b := 10) (by omega) q
    simpa using this
theorem hex_lit {s : ByteArray} {q : Nat} {g : Bool} (hs : s.data.toList = (wfigs 16 q).map (fun d => UInt8.ofNat (hexc g d))) (hq : q < 18446744073709551616) : LitOk ((⟨#[48, 120]⟩ : ByteArray) ++ s) q 0 := by
  have hl := wfigs_len (b := 16) (by omega) (k := 16) (x := q) (by omega) (by omega)
  refine litOk_hex (g := g) (D := wfigs 16 q) ?_ (wfigs_lt (by omega) q) (wfigs_ne (by omega)) hl (wfigs_val (by omega) q) hq
  rw [ByteArray.data_append, Array.toList_append, hs]
  rfl
end Go.Proofs.YtfbbkngonohlkaaGreatDoor
