/- Joined texts: RatSet, Mfl2, LitF, ExpSp, LawF, LawF2. -/
import Derived.Test.YtfbbkngonohlkaaGreatDoorFSs
import Derived.Test.YtfbbkngonohlkaaGreatDoorSsTq
import Derived.Test.YtfbbkngonohlkaaGreatDoorFPa
import Derived.Test.YtfbbkngonohlkaaGreatDoorFScn
import Derived.Test.YtfbbkngonohlkaaGreatDoorFSpA
import Derived.Test.YtfbbkngonohlkaaGreatDoorFSpF
import Derived.Test.YtfbbkngonohlkaaGreatDoorFImp
import Derived.Test.YtfbbkngonohlkaaGreatDoorFSpC
import Derived.Deep.DeepCutAuto
import Derived.Deep.CutRange
import Derived.Deep.CutBlock
/- Rat.SetString whole: of a mantissa below 2^64 with a point or none, an exponent or none. -/
namespace Go.Proofs.YtfbbkngonohlkaaGreatDoor
open Go Go.RowKit
set_option linter.unusedVariables false
set_option linter.unusedSimpArgs false
theorem len_one {A : List Int} {n : Nat} (hn : Nrm A) (hw : Ws A) (h0 : 0 < n) (h1 : n < 18446744073709551616) (hv : val A = n) : A.length = 1 := by
  have h4 := len_le_of_val hn hw (n := 1) (by rw [hv, BB_one]; omega)
  rcases A with _ | ⟨y, t⟩
  · simp only [val] at hv
    omega
  · simp at h4 ⊢
    omega
theorem ndiv {n m : Nat} {A B : List Int} (h1 : val A = (n : Int) / Int.gcd (n : Int) (m : Int)) (h2 : val B = (m : Int) / Int.gcd (n : Int) (m : Int)) : val A = ((n / Nat.gcd n m : Nat) : Int) ∧ val B = ((m / Nat.gcd n m : Nat) : Int) := by
  rw [h1, h2]
  constructor <;> simp [Int.gcd]
/-- The number that the text holds: n / 10^p in lowest terms. -/
def RatIs (w w' : World) (rb n p : Nat) : Prop := ∃ va vb' A B, RatB w' rb false false va vb' A B ∧ val A = ((n / Nat.gcd n (10 ^ p) : Nat) : Int) ∧ val B = ((10 ^ p / Nat.gcd n (10 ^ p) : Nat) : Int) ∧ Fr [rb] w w'
/-- n times 10 to the power T: its numerator and the power of ten below it, before they are reduced. -/
def rN (n : Nat) (T : Int) : Nat := n * 10 ^ T.toNat
def rP (T : Int) : Nat := (-T).toNat
theorem rat_set {E : Value} {w : World} {rb : Nat} {s : ByteArray} {base k x kk T : Int} {n j : Nat} (hE : IsE E) (hG : Glb E w) (hrb : 16 ≤ rb) (hB : Bk w rb 160 [.bool false, .slice none 0 0, .bool false, .slice none 0 0])
    (hs0 : 0 < s.size) (hs : s.size ≤ 100000) (hsl : ∀ i (h : i < s.size), s[i].toNat ≠ 47) (hp : s[0].toNat ≠ 43) (hm : s[0].toNat ≠ 45)
    (hn : n < 18446744073709551616) (hI : TIn base k x kk T)
    (hsc : ∀ u b, RdAt u b s 0 → 16 ≤ b → u.cell? ⟨1, 0, none⟩ = some E → Calls Tryz.prog 102 #[.slice none 0 0, .iface 127 (.pointer (some ⟨b, 0, none⟩)), .int .i64 0, .bool true] u fun e w' => ∃ v l, e = .returned (.tuple #[v, .int .i64 base, .int .i64 k, .nilIface]) ∧ Hid (NatV w' v l ∧ Nrm l ∧ val l = n ∧ capOf v ≤ 9223372036854775807 ∧ RdAt w' b s j ∧ Fr [b] u w' ∧ (∀ k, k ∈ vb v → u.heap.size ≤ k)))
    (hex : ∀ u b, RdAt u b s j → 16 ≤ b → u.cell? ⟨1, 0, none⟩ = some E → Calls Tryz.prog 105 #[.iface 127 (.pointer (some ⟨b, 0, none⟩)), .bool true, .bool true] u fun e w' => e = .returned (.tuple #[.int .i64 x, .int .i64 10, .nilIface]) ∧ RdAt w' b s s.size ∧ Fr [b] u w') :
    Calls Tryz.prog 66 #[.pointer (some ⟨rb, 0, none⟩), .string s] w fun e w' => e = .returned (.tuple #[.pointer (some ⟨rb, 0, none⟩), .bool true]) ∧ Hid (RatIs w w' rb (rN n T) (rP T)) := by
  refine ss_head hE hG.g1 hG.size hrb hB hs0 hs hsl hp hm hsc hex ?_ ?_
  · intro h0 w1 va A q1 q2 q3 q4
    have hl := len_one q1.an q1.av.ws h0 hn q2
    have hfv : ∀ x, x ∈ rb :: vb va → x ∈ [rb] ∨ w.heap.size ≤ x := fun x hx => by
      rcases List.mem_cons.1 hx with h | h
      · exact .inl (by simp [h])
      · exact .inr (q4 x h)
    rcases Int.lt_trichotomy T 0 with hT | hT | hT
    · obtain ⟨p, hp'⟩ : ∃ p : Nat, T = -(p : Int) := ⟨(-T).toNat, by omega⟩
      subst hp'
      unfold Tail38
      intros
      refine ss_tailp (hG.fr q3 (by simp; omega)) hrb q1 hl hI (by omega) (Lib.hid fun w' va2 vb2 A2 B2 r1 r2 r3 r4 => ⟨rfl, Lib.hid ?_⟩)
      rw [q2] at r2 r3
      obtain ⟨a1, a2⟩ := ndiv r2 r3
      have e1 : rN n (-(p : Int)) = n := by unfold rN; rw [show (-(p : Int)).toNat = 0 by omega]; simp
      have e2 : rP (-(p : Int)) = p := by unfold rP; omega
      rw [e1, e2]
      exact ⟨va2, vb2, A2, B2, r1, a1, a2, q3.trans r4 hfv⟩
    · subst hT
      unfold Tail38
      intros
      refine ss_tail0 q1 (by omega) (by omega) hI rfl (Lib.hid fun w' vb' r1 r2 => ⟨rfl, Lib.hid ⟨va, vb', A, [1], r1, by simp [q2, rN, rP], by simp [val, rP], q3.trans r2 (by simp)⟩⟩)
    · obtain ⟨p, hp'⟩ : ∃ p : Nat, T = (p : Int) := ⟨T.toNat, by omega⟩
      subst hp'
      unfold Tail38
      intros
      refine ss_tailq (hG.fr q3 (by simp; omega)) hrb q1 hl hI (by omega) (Lib.hid fun w' va2 vb2 A2 r1 r2 r4 => ⟨rfl, Lib.hid ?_⟩)
      have e1 : rN n (p : Int) = n * 10 ^ p := by unfold rN; rw [show (p : Int).toNat = p by omega]
      have e2 : rP (p : Int) = 0 := by unfold rP; omega
      rw [e1, e2]
      exact ⟨va2, vb2, A2, [1], r1, by rw [r2, q2]; simp, by simp [val], q3.trans r4 hfv⟩
  · intro h0 w1 va vb' q1 q2
    subst h0
    have e1 : rN 0 T = 0 := by unfold rN; simp
    rw [e1]
    refine ⟨rfl, Lib.hid ⟨va, vb', [], [1], q1, by simp [val], ?_, q2⟩⟩
    rw [Nat.gcd_zero_left, Nat.div_self (Nat.pow_pos (by omega))]
    simp [val]
end Go.Proofs.YtfbbkngonohlkaaGreatDoor
/- makeFloatFromLiteral of a text with a mantissa and an exponent or none. -/
namespace Go.Proofs.YtfbbkngonohlkaaGreatDoor
open Go Go.RowKit
set_option linter.unusedVariables false
set_option linter.unusedSimpArgs false
/-- nat.scan of a decimal mantissa does what is asked. -/
theorem scC_ten {E : Value} {rd : Nat} {s : ByteArray} {M : List Nat} {c n : Nat} {d k : Int} (hE : IsE E) (hrd : 16 ≤ rd) (hM : MOk M) (hT : MTxt s M) (hm : mSt M = (c, n, d)) (hk : k = if 0 ≤ d then d - c else c) : ScC E rd s M.length 10 k n := by
  intro u hr hg
  refine (scan10_any hE hg (NatV.nil u) (by simp [capOf]) hrd (by simp [vb]) (by simp [vb]) hr hM hT hm hk).mono ?_
  rintro e w' ⟨v, l, rfl, h1, h2, h3, h4, h5, h6, h7⟩
  exact ⟨v, l, rfl, h1, h2, h3, h4, h5, h6.mono (by simp [vb]), fun q hq => (h7 q hq).resolve_left (by simp [vb])⟩
theorem scC_zero {E : Value} {rd : Nat} (hE : IsE E) (hrd : 16 ≤ rd) : ScC E rd ⟨#[48]⟩ 1 10 1 0 := by
  refine scC_ten (M := [48]) (c := 1) (d := -1) hE hrd ⟨fun j hj => ?_, fun j hj => ?_, by simp, fun _ => by simp, by simp⟩ ⟨by simp [ByteArray.size], fun j hj hj' => ?_, fun h => ?_, by simp [ByteArray.size]⟩ rfl (by simp)
  · have : j = 0 := by simp at hj; omega
    subst this
    right
    simp
  · have : j = 0 := by simp at hj; omega
    subst this
    simp
  · have : j = 0 := by simp at hj; omega
    subst this
    rfl
  · simp [ByteArray.size] at h
theorem FRes.fr {S : List Nat} {w w' : World} {fb n : Nat} (h : FRes w fb n) (hf : Fr S w w') (h1 : S = []) : FRes w' fb n := by
  subst h1
  obtain ⟨acc, form, ex, va, A, a1, a2⟩ := h
  exact ⟨acc, form, ex, va, A, a1.fr hf (by simp) (by simp), a2⟩
theorem zero_gcd {p : Nat} : (0 / Nat.gcd 0 (10 ^ p) = 0 / Nat.gcd 0 (10 ^ 0)) ∧ (10 ^ p / Nat.gcd 0 (10 ^ p) = 10 ^ 0 / Nat.gcd 0 (10 ^ 0)) := by
  simp [Nat.gcd_zero_left, Nat.div_self (show 0 < 10 ^ p from Nat.pow_pos (by omega))]
set_option maxRecDepth 100000 in
set_option maxHeartbeats 1000000 in
theorem mfl_any {E : Value} {w : World} {s : ByteArray} {bs k x kk T : Int} {n j N p : Nat} {LA LB : List Int} (hE : IsE E) (hG : Glb E w) (hs0 : 0 < s.size) (hs : s.size ≤ 100000) (hd : s[0].toNat ≤ 57) (hp : s[0].toNat ≠ 43) (hm : s[0].toNat ≠ 45)
    (hsl : ∀ i (h : i < s.size), s[i].toNat ≠ 47) (hn : n < 18446744073709551616) (hI : TIn bs k x kk T) (hN : N = rN n T) (hP : p = rP T) (hsc : ∀ rd, 16 ≤ rd → ScC E rd s j bs k n) (hex : ∀ rd, 16 ≤ rd → ExC E rd s j x)
    (hA : Ws LA ∧ Nrm LA ∧ val LA = ((N / Nat.gcd N (10 ^ p) : Nat) : Int)) (hB : Ws LB ∧ Nrm LB ∧ val LB = ((10 ^ p / Nat.gcd N (10 ^ p) : Nat) : Int)) :
    Calls Tryz.prog 39 #[.string s] w fun e w' => ∃ rb, e = .returned (.iface 120 (.agg #[.pointer (some ⟨rb, 0, none⟩)])) ∧ Hid (∃ va vb', RatB w' rb false false va vb' LA LB ∧ Fr [] w w') := by
  have h16 := hG.size
  have HNF := Lib.hid (newFloat_any (w := w))
  have HST : Hid (∀ w1, Hid (FlB w1 w.heap.size 512 0 0 false (.slice none 0 0) 0 [] ∧ Fr [] w w1) → Hid (Calls Tryz.prog 62 #[.pointer (some ⟨w.heap.size, 0, none⟩), .string s] w1 fun e w' => e = .returned (.tuple #[.pointer (some ⟨w.heap.size, 0, none⟩), .bool true]) ∧ Hid (Fr [] w w' ∧ FRes w' w.heap.size n))) := fun w1 hh => by
    obtain ⟨q1, q2⟩ := hh.out
    have hkk : (0 ≤ k ∧ kk = 0) ∨ (k = -((-k).toNat : Int) ∧ 1 ≤ (-k).toNat ∧ (-k).toNat ≤ 24 ∧ bs = 10 ∧ kk = k) := by
      have hb0 := hI.b0
      rcases hI.hk with h | ⟨h1, h2, h3⟩
      · exact .inl h
      · exact .inr ⟨by omega, by omega, by omega, h2, h3⟩
    refine (fset_any hE (hG.fr q2 (by simp)) q1 h16 hs0 hs hd hp hm hn hkk hI.x0 hI.x1 hsc hex).mono ?_
    rintro e w' ⟨rfl, hr⟩
    exact ⟨rfl, q2.trans hr.out.1 (by simp), hr.out.2⟩
  have HSM : Hid (∀ w2, Hid (Fr [] w w2 ∧ FRes w2 w.heap.size n) → Hid (Calls Tryz.prog 63 #[.pointer (some ⟨w.heap.size, 0, none⟩)] w2 fun e w' => e = .returned (.bool true) ∧ w2 = w')) := fun w2 hh => by
    obtain ⟨acc, form, ex, va, A, a1, a2, a3, a4, a5⟩ := hh.out.2
    exact smallFloat_any a1 a2 a4 a5
  have HSG : Hid (∀ w2, Hid (Fr [] w w2 ∧ FRes w2 w.heap.size n) → Hid (Calls Tryz.prog 64 #[.pointer (some ⟨w.heap.size, 0, none⟩)] w2 fun e w' => e = .returned (.int .i64 (if n = 0 then 0 else 1)) ∧ w2 = w')) := fun w2 hh => by
    obtain ⟨acc, form, ex, va, A, a1, a2, a3, a4, a5⟩ := hh.out.2
    have := fsign_any a1
    by_cases h : n = 0
    · rw [if_pos (a3.2 h)] at this
      rw [if_pos h]
      exact this
    · rw [if_neg (fun e => h (a3.1 e))] at this
      rw [if_neg h]
      exact this
  have HNR := fun u : World => Lib.hid (newRat_any (w := u))
  have HRS : Hid (∀ w2 (lit : ByteArray), lit = (if n = 0 then ⟨#[48]⟩ else s) → Hid (Fr [] w w2 ∧ FRes w2 w.heap.size n) → Hid (Calls Tryz.prog 66 #[.pointer (some ⟨w2.heap.size, 0, none⟩), .string lit] (w2.alloc (.cells #[.bool false, .slice none 0 0, .bool false, .slice none 0 0] 160)) fun e w' => e = .returned (.tuple #[.pointer (some ⟨w2.heap.size, 0, none⟩), .bool true]) ∧ Hid (∃ va vb', RatB w' w2.heap.size false false va vb' LA LB ∧ Fr [] w w'))) := fun w2 lit hl hh => by
    obtain ⟨q1, q2⟩ := hh.out
    have hsz := q1.size
    have hf : Fr [] w (w2.alloc (.cells #[.bool false, .slice none 0 0, .bool false, .slice none 0 0] 160)) := q1.alloc _
    have hfin : ∀ {w' : World}, (∃ va vb' A B, RatB w' w2.heap.size false false va vb' A B ∧ val A = ((N / Nat.gcd N (10 ^ p) : Nat) : Int) ∧ val B = ((10 ^ p / Nat.gcd N (10 ^ p) : Nat) : Int) ∧ Fr [w2.heap.size] (w2.alloc (.cells #[.bool false, .slice none 0 0, .bool false, .slice none 0 0] 160)) w') → ∃ va vb', RatB w' w2.heap.size false false va vb' LA LB ∧ Fr [] w w' := by
      rintro w' ⟨va, vb', A, B, r1, r2, r3, r4⟩
      have eA : A = LA := nrm_inj r1.an hA.2.1 r1.av.ws hA.1 (by rw [r2, hA.2.2])
      have eB : B = LB := nrm_inj r1.bn hB.2.1 r1.bv.ws hB.1 (by rw [r3, hB.2.2])
      subst eA
      subst eB
      exact ⟨va, vb', r1, hf.trans r4 (fun x hx => .inr (by simp at hx; omega))⟩
    by_cases h : n = 0
    · rw [if_pos h] at hl
      subst hl
      refine (rat_set (n := 0) (k := 1) (x := 0) (kk := 0) (T := 0) (base := 10) hE (hG.fr hf (by simp)) (by omega) (Bk.new w2 160 _) (by simp [ByteArray.size]) (by simp [ByteArray.size]) (fun i hi => ?_) (by decide) (by decide) (by omega) ⟨.inl ⟨by omega, rfl⟩, by omega, by omega, by omega, by omega, by omega⟩ (fun u b hr hb hg => scC_zero hE hb u hr hg) (fun u b hr hb hg => exC_end hE (by simp [ByteArray.size]) hb u true true hr hg)).mono ?_
      · have : i = 0 := by simp [ByteArray.size] at hi; omega
        subst this
        change (48 : UInt8).toNat ≠ 47
        decide
      · rintro e w' ⟨rfl, hr⟩
        obtain ⟨va, vb', A, B, r1, r2, r3, r4⟩ := hr.out
        have hN0 : N = 0 := by rw [hN, h]; unfold rN; simp
        have e1 : rN 0 0 = 0 := rfl
        have e2 : rP 0 = 0 := rfl
        rw [e1, e2] at r2 r3
        refine ⟨rfl, Lib.hid (hfin ⟨va, vb', A, B, r1, ?_, ?_, r4⟩)⟩
        · rw [r2, hN0]; exact congrArg Nat.cast (zero_gcd (p := p)).1.symm
        · rw [r3, hN0]; exact congrArg Nat.cast (zero_gcd (p := p)).2.symm
    · rw [if_neg h] at hl
      subst hl
      refine (rat_set hE (hG.fr hf (by simp)) (by omega) (Bk.new w2 160 _) hs0 hs hsl hp hm hn hI (fun u b hr hb hg => hsc b hb u hr hg) (fun u b hr hb hg => hex b hb u true true hr hg)).mono ?_
      rintro e w' ⟨rfl, hr⟩
      rw [← hN, ← hP] at hr
      exact ⟨rfl, Lib.hid (hfin hr.out)⟩
  clear hE hG hI hsc hA hB hd hp hm hsl hex hN hP
  by_cases h : n = 0
  · rw [if_pos h] at HSG HRS
    clear h
    go_enter Tryz.func39, Tryz.ntmps39
    go_wp2_with (first | (have hh := h3; go_at_call 66; refine (HRS.out w2 _ rfl h2).out.mono ?_; rintro e w4 ⟨rfl, h4⟩) | (have hh := h2; go_at_call 65; refine (HNR w2).out.mono ?_; rintro e w3 ⟨rfl, rfl⟩; have h3 := trivial) | (have hh := h2; go_at_call 64; refine (HSG.out w2 h2).out.mono ?_; rintro e w5 ⟨rfl, rfl⟩) | (have hh := h2; go_at_call 63; refine (HSM.out w2 h2).out.mono ?_; rintro e w5 ⟨rfl, rfl⟩) | (have hh := h1; go_at_call 62; refine (HST.out w1 h1).out.mono ?_; rintro e w2 ⟨rfl, h2⟩) | (go_at_call 61; refine HNF.out.mono ?_; rintro e w1 ⟨rfl, h1⟩))
    go_ret
    exact ⟨_, rfl, h4.out⟩
  · rw [if_neg h] at HSG HRS
    clear h
    go_enter Tryz.func39, Tryz.ntmps39
    go_wp2_with (first | (have hh := h3; go_at_call 66; refine (HRS.out w2 _ rfl h2).out.mono ?_; rintro e w4 ⟨rfl, h4⟩) | (have hh := h2; go_at_call 65; refine (HNR w2).out.mono ?_; rintro e w3 ⟨rfl, rfl⟩; have h3 := trivial) | (have hh := h2; go_at_call 64; refine (HSG.out w2 h2).out.mono ?_; rintro e w5 ⟨rfl, rfl⟩) | (have hh := h2; go_at_call 63; refine (HSM.out w2 h2).out.mono ?_; rintro e w5 ⟨rfl, rfl⟩) | (have hh := h1; go_at_call 62; refine (HST.out w1 h1).out.mono ?_; rintro e w2 ⟨rfl, h2⟩) | (go_at_call 61; refine HNF.out.mono ?_; rintro e w1 ⟨rfl, h1⟩))
    go_ret
    exact ⟨_, rfl, h4.out⟩
end Go.Proofs.YtfbbkngonohlkaaGreatDoor
/- The texts that the law of decimal literals makes: figures with a point, and an exponent or none. -/
namespace Go.Proofs.YtfbbkngonohlkaaGreatDoor
open Go Go.RowKit
set_option linter.unusedVariables false
set_option linter.unusedSimpArgs false
/-- The text t is a literal of n times 10 to the power T. -/
structure LitF (t : ByteArray) (n : Nat) (T : Int) : Prop where
  pos : 0 < t.size
  size : t.size ≤ 1000
  fst : ∀ h : 0 < t.size, t[0].toNat ≤ 57 ∧ t[0].toNat ≠ 43 ∧ t[0].toNat ≠ 45
  nos : ∀ i (h : i < t.size), t[i].toNat ≠ 47
  lt : n < 18446744073709551616
  sc : ∃ (bs k x kk : Int) (j : Nat), TIn bs k x kk T ∧ (∀ E rd, IsE E → 16 ≤ rd → ScC E rd t j bs k n) ∧ (∀ E rd, IsE E → 16 ≤ rd → ExC E rd t j x)
theorem byte_opt {t : ByteArray} {L : List Nat} (h : t.data.toList.map UInt8.toNat = L) {i : Nat} (hi : i < t.size) : L[i]? = some (t[i].toNat) := by
  rw [← h, List.getElem?_map]
  have e : t.data.toList[i]? = some t[i] := by
    rw [List.getElem?_eq_getElem (show i < t.data.toList.length from hi)]
    rfl
  rw [e]
  rfl
/-- The exponent's bytes. -/
def expL (c sg e : Nat) : List Nat := c :: ((if sg = 0 then [] else [sg]) ++ (expF e).map (fun d => 48 + d))
theorem expL_len (c sg e : Nat) : (expL c sg e).length = 1 + (if sg = 0 then 0 else 1) + (expF e).length := by
  unfold expL
  split <;> simp <;> omega
theorem eTxt_of {t : ByteArray} {M : List Nat} {c sg e : Nat} (h : t.data.toList.map UInt8.toNat = M ++ expL c sg e) (hc : c = 101 ∨ c = 69) (hs : sg = 0 ∨ sg = 43 ∨ sg = 45) (he : e < 301) (hl : M.length ≤ 500) : ETxt t M.length sg e := by
  have hsz : t.size = M.length + (expL c sg e).length := by
    have : t.size = (t.data.toList.map UInt8.toNat).length := by rw [List.length_map]; rfl
    rw [this, h, List.length_append]
  have hel := expL_len c sg e
  obtain ⟨l0, l1⟩ := expF_len e
  refine ⟨by omega, fun hi => ?_, hs, fun hsg hi => ?_, fun i hi hi' => ?_, he, by split at hel <;> omega⟩
  · have h1 := byte_opt h hi
    rw [List.getElem?_append_right (Nat.le_refl _), Nat.sub_self] at h1
    have h2 : (expL c sg e)[0]? = some c := rfl
    rw [h2] at h1
    have h3 := Option.some.inj h1
    omega
  · have h1 := byte_opt h hi
    rw [List.getElem?_append_right (by omega), show M.length + 1 - M.length = 1 by omega] at h1
    have h2 : (expL c sg e)[1]? = some sg := by unfold expL; rw [if_neg hsg]; rfl
    rw [h2] at h1
    exact (Option.some.inj h1).symm
  · have h1 := byte_opt h hi'
    rw [List.getElem?_append_right (by omega)] at h1
    have h2 : (expL c sg e)[M.length + 1 + (if sg = 0 then 0 else 1) + i - M.length]? = some (48 + (expF e)[i]) := by
      unfold expL
      by_cases hsg : sg = 0
      · rw [if_pos hsg, if_pos hsg, show M.length + 1 + 0 + i - M.length = i + 1 by omega, List.getElem?_cons_succ, List.nil_append, List.getElem?_map, List.getElem?_eq_getElem hi]
        rfl
      · rw [if_neg hsg, if_neg hsg, show M.length + 1 + 1 + i - M.length = (i + 1) + 1 by omega, List.getElem?_cons_succ]
        show ((expF e).map (fun d => 48 + d))[i]? = _
        rw [List.getElem?_map, List.getElem?_eq_getElem hi]
        rfl
    rw [h2] at h1
    exact (Option.some.inj h1).symm
theorem mTxt_app {t : ByteArray} {M X : List Nat} (h : t.data.toList.map UInt8.toNat = M ++ X) (hX : ∀ x, X[0]? = some x → x = 101 ∨ x = 69) (hl : M.length + X.length ≤ 1000) : MTxt t M := by
  have hsz : t.size = M.length + X.length := by
    have : t.size = (t.data.toList.map UInt8.toNat).length := by rw [List.length_map]; rfl
    rw [this, h, List.length_append]
  refine ⟨by omega, fun j hj hj' => ?_, fun hi => ?_, by omega⟩
  · have h1 := byte_opt h hj'
    rw [List.getElem?_append_left hj, List.getElem?_eq_getElem hj] at h1
    exact (Option.some.inj h1).symm
  · have h1 := byte_opt h hi
    rw [List.getElem?_append_right (Nat.le_refl _), Nat.sub_self] at h1
    exact hX _ h1
theorem byte_in {t : ByteArray} {L : List Nat} (h : t.data.toList.map UInt8.toNat = L) {i : Nat} (hi : i < t.size) : t[i].toNat ∈ L := by
  have h1 := byte_opt h hi
  exact List.mem_of_getElem? h1
theorem expL_mem {c sg e x : Nat} (hc : c = 101 ∨ c = 69) (hs : sg = 0 ∨ sg = 43 ∨ sg = 45) (he : e < 301) (h : x ∈ expL c sg e) : x ≠ 47 := by
  unfold expL at h
  rcases List.mem_cons.1 h with h | h
  · omega
  · rcases List.mem_append.1 h with h | h
    · by_cases h0 : sg = 0
      · rw [if_pos h0] at h; cases h
      · rw [if_neg h0] at h; simp at h; omega
    · obtain ⟨d, hd, rfl⟩ := List.mem_map.1 h
      have := expF_dig (e := e) (by omega) d hd
      omega
/-- Figures with a point ahead of the last p of them, and X behind: nothing, or an exponent x. -/
theorem litF_of {t : ByteArray} {D X : List Nat} {n p : Nat} {x : Int} (h : t.data.toList.map UInt8.toNat = ptxt D (D.length - p) ++ X) (hD : ∀ d, d ∈ D → d < 10) (h0 : 0 < D.length) (hl : D.length ≤ 200) (hpl : p ≤ D.length) (hv : D.foldl (fun a d => a * 10 + d) 0 = n) (hn : n < 18446744073709551616) (hp : p ≤ 24) (hX0 : ∀ x, X[0]? = some x → x = 101 ∨ x = 69) (hXl : X.length ≤ 10) (hXn : ∀ x, x ∈ X → x ≠ 47) (hx0 : -300 ≤ x) (hx1 : x ≤ 300)
    (hex : ∀ E rd, IsE E → 16 ≤ rd → ExC E rd t (ptxt D (D.length - p)).length x) : LitF t n (x - (p : Int)) := by
  have hlen : (ptxt D (D.length - p)).length = D.length + 1 := by unfold ptxt; simp; omega
  have hM := mOk_ptxt hD (show D.length - p ≤ D.length by omega) h0 (by omega)
  have hT := mTxt_app h hX0 (by omega)
  have hsz : t.size = D.length + 1 + X.length := by
    have : t.size = (t.data.toList.map UInt8.toNat).length := by rw [List.length_map]; rfl
    rw [this, h, List.length_append, hlen]
  have hm := mSt_ptxt hD (show D.length - p ≤ D.length by omega)
  rw [hv] at hm
  have hk : -(p : Int) = if (0 : Int) ≤ ((D.length - p : Nat) : Int) then ((D.length - p : Nat) : Int) - (D.length : Int) else (D.length : Int) := by rw [if_pos (by omega)]; omega
  refine ⟨by omega, by omega, fun hi => ?_, fun i hi => ?_, hn, 10, -(p : Int), x, -(p : Int), _, ⟨?_, by omega, by omega, hx0, hx1, by omega⟩, fun E rd hE hrd => scC_ten hE hrd hM hT hm hk, hex⟩
  · have h1 := hT.get 0 hM.pos hi
    have h2 := hM.dig 0 hM.pos
    omega
  · rcases List.mem_append.1 (byte_in h hi) with h1 | h1
    · obtain ⟨j, hj, e⟩ := List.getElem_of_mem h1
      have := hM.dig j hj
      omega
    · exact hXn _ h1
  · rcases Nat.eq_zero_or_pos p with rfl | hp0
    · exact .inl ⟨by omega, by omega⟩
    · exact .inr ⟨by omega, rfl, rfl⟩
theorem litF_none {t : ByteArray} {D : List Nat} {n p : Nat} (h : t.data.toList.map UInt8.toNat = ptxt D (D.length - p)) (hD : ∀ d, d ∈ D → d < 10) (h0 : 0 < D.length) (hl : D.length ≤ 200) (hpl : p ≤ D.length) (hv : D.foldl (fun a d => a * 10 + d) 0 = n) (hn : n < 18446744073709551616) (hp : p ≤ 24) : LitF t n (0 - (p : Int)) := by
  refine litF_of (X := []) (x := 0) (by rw [List.append_nil]; exact h) hD h0 hl hpl hv hn hp (fun x hx => by cases hx) (by simp) (fun x hx => by cases hx) (by omega) (by omega) (fun E rd hE hrd => ?_)
  have e : (ptxt D (D.length - p)).length = t.size := by
    rw [← h, List.length_map]
    rfl
  have hlen : (ptxt D (D.length - p)).length = D.length + 1 := by unfold ptxt; simp; omega
  rw [e]
  exact exC_end hE (by omega) hrd
theorem litF_exp {t : ByteArray} {D : List Nat} {n p c sg e : Nat} (h : t.data.toList.map UInt8.toNat = ptxt D (D.length - p) ++ expL c sg e) (hD : ∀ d, d ∈ D → d < 10) (h0 : 0 < D.length) (hl : D.length ≤ 200) (hpl : p ≤ D.length) (hv : D.foldl (fun a d => a * 10 + d) 0 = n) (hn : n < 18446744073709551616) (hp : p ≤ 24) (hc : c = 101 ∨ c = 69) (hs : sg = 0 ∨ sg = 43 ∨ sg = 45) (he : e < 301) : LitF t n ((if sg = 45 then -(e : Int) else e) - (p : Int)) := by
  have hlen : (ptxt D (D.length - p)).length = D.length + 1 := by unfold ptxt; simp; omega
  have hel := expL_len c sg e
  obtain ⟨l0, l1⟩ := expF_len e
  refine litF_of (X := expL c sg e) h hD h0 hl hpl hv hn hp (fun x hx => ?_) (by split at hel <;> omega) (fun x hx => expL_mem hc hs he hx) (by split <;> omega) (by split <;> omega) (fun E rd hE hrd => exC_figs hE (eTxt_of h hc hs he (by omega)) hrd)
  have h2 : (expL c sg e)[0]? = some c := rfl
  rw [h2] at hx
  have := Option.some.inj hx
  omega
/-- makeFloatFromLiteral of a literal. -/
theorem LitF.mfl {E : Value} {w : World} {t : ByteArray} {n N p : Nat} {T : Int} {LA LB : List Int} (h : LitF t n T) (hE : IsE E) (hG : Glb E w) (hN : N = rN n T) (hP : p = rP T) (hA : Ws LA ∧ Nrm LA ∧ val LA = ((N / Nat.gcd N (10 ^ p) : Nat) : Int)) (hB : Ws LB ∧ Nrm LB ∧ val LB = ((10 ^ p / Nat.gcd N (10 ^ p) : Nat) : Int)) :
    Calls Tryz.prog 39 #[.string t] w fun e w' => ∃ rb, e = .returned (.iface 120 (.agg #[.pointer (some ⟨rb, 0, none⟩)])) ∧ Hid (∃ va vb', RatB w' rb false false va vb' LA LB ∧ Fr [] w w') := by
  obtain ⟨bs, k, x, kk, j, hI, hsc, hex⟩ := h.sc
  obtain ⟨f1, f2, f3⟩ := h.fst h.pos
  have := h.size
  exact mfl_any hE hG h.pos (by omega) f1 f2 f3 h.nos h.lt hI hN hP (fun rd hrd => hsc E rd hE hrd) (fun rd hrd => hex E rd hE hrd) hA hB
end Go.Proofs.YtfbbkngonohlkaaGreatDoor
/- The law's exponent: a letter, a sign or none, and figures. -/
namespace Go.Proofs.YtfbbkngonohlkaaGreatDoor
open Go Go.RowKit
set_option linter.unusedVariables false
set_option linter.unusedSimpArgs false
/-- Digits of a number. -/
theorem digits_f {w : World} {a : Option Addr} {n c : Nat} {x : Nat} (ha : SD w (.slice a n c) x) (hx : x < 18446744073709551616) :
    Calls Tryz.prog 7 #[.slice a n c] w fun e w' => ∃ s : ByteArray, e = .returned (.string s) ∧ Hid (s.data.toList = (wfigs 10 x).map (fun d => UInt8.ofNat (48 + d)) ∧ Fr [] w w') := by
  rcases Nat.eq_zero_or_pos x with rfl | h0
  · have hn : n = 0 := by
      obtain ⟨a', n', c', e, h1, _⟩ := ha.form
      cases e
      exact h1.2 rfl
    subst hn
    refine digits_zero.mono ?_
    rintro e w' ⟨rfl, rfl⟩
    exact ⟨_, rfl, by simp [wfigs], Fr.refl _ _⟩
  · have hPP : (18446744073709551616 : Int) = PP 4 := by decide
    have hw : wfigs 10 x = figs 10 x := by unfold wfigs; rw [if_neg (by omega)]
    rw [hw]
    exact digits_yes ha h0 (N := 4) (by omega) (by omega) (Nat.le_trans (figs_len (by omega) 20 x (by omega)) (by omega))
theorem wfigs_expF {e : Nat} (he : e < 1000) : wfigs 10 e = expF e := by
  have f1 : ∀ x, 0 < x → x < 10 → figs 10 x = [x] := fun x h0 h1 => by
    rw [figs_pos (by omega) h0, show x / 10 = 0 by omega, figs_zero, show x % 10 = x by omega]
    rfl
  have f2 : ∀ x, 10 ≤ x → x < 100 → figs 10 x = [x / 10, x % 10] := fun x h0 h1 => by
    rw [figs_pos (by omega) (by omega), f1 (x / 10) (by omega) (by omega)]
    rfl
  unfold wfigs expF
  by_cases h0 : e = 0
  · subst h0; rfl
  · rw [if_neg h0]
    by_cases h1 : e < 10
    · rw [if_pos h1, f1 e (by omega) h1]
    · rw [if_neg h1]
      by_cases h2 : e < 100
      · rw [if_pos h2, f2 e (by omega) h2]
      · rw [if_neg h2, figs_pos (by omega) (by omega), f2 (e / 10) (by omega) (by omega)]
        rw [show e / 10 / 10 = e / 100 by omega]
        rfl
/-- The bytes of an exponent. -/
def ExpBs (t : ByteArray) (c : UInt8) (sg e : Nat) : Prop := t.data.toList = c :: ((if sg = 0 then [] else [UInt8.ofNat sg]) ++ (expF e).map (fun d => UInt8.ofNat (48 + d)))
set_option maxRecDepth 100000 in
set_option maxHeartbeats 400000 in
theorem exponent_any {w : World} {c : UInt8} {x : Int} {plus : Bool} {sg e : Nat} (hx : x = (e : Int) ∨ x = -(e : Int)) (he : e < 301) (hs : sg = if x < 0 then 45 else if plus then 43 else 0) :
    Calls Tryz.prog 8 #[.string ⟨#[c]⟩, .int .i64 x, .bool plus] w fun r w' => ∃ t : ByteArray, r = .returned (.string t) ∧ t.size ≤ 10 ∧ Hid (ExpBs t c sg e ∧ Fr [] w w') := by
  have H19 : Hid (Calls Tryz.prog 19 #[.int .i64 (e : Int)] w fun r w' => ∃ a n c, r = .returned (.slice a n c) ∧ Hid (SD w' (.slice a n c) (e : Int) ∧ Fr [] w w')) := small_sl (by omega) (by omega)
  have H7 : Hid (∀ u a n c, Hid (SD u (.slice a n c) (e : Int) ∧ Fr [] w u) → Calls Tryz.prog 7 #[.slice a n c] u fun r w' => ∃ s : ByteArray, r = .returned (.string s) ∧ Hid (s.data.toList = (expF e).map (fun d => UInt8.ofNat (48 + d)) ∧ Fr [] w w')) := fun u a n c hh => by
    refine (digits_f hh.out.1 (by omega)).mono ?_
    rintro r w' ⟨s, rfl, h⟩
    rw [wfigs_expF (by omega)] at h
    exact ⟨s, rfl, h.out.1, hh.out.2.trans h.out.2 (by simp)⟩
  have hcat : ∀ (A B : ByteArray) (u : World), A.size + B.size ≤ 9223372036854775807 → (binOp .add 9 (.string A) (.string B)).run Tryz.prog u = .ok (.string (A ++ B)) u := fun A B u h => by rw [binOp_string_add]; exact run_string_add_sum (P := Tryz.prog) u A B h
  have hsz : ∀ s : ByteArray, s.data.toList = (expF e).map (fun d => UInt8.ofNat (48 + d)) → s.size ≤ 3 := fun s h => by
    rw [size_toList, h, List.length_map]
    exact (expF_len e).2
  have HCAT := Lib.hid hcat
  clear hcat
  by_cases hneg : x < 0
  · have hxe : x = -(e : Int) := by omega
    subst hxe
    have hd : decide (-(e : Int) < 0) = true := decide_eq_true hneg
    have hmx : max (-(e : Int)) (e : Int) = (e : Int) := by omega
    have hw1 : IntKind.i64.wrap (- -(e : Int)) = (e : Int) := by rw [IntWalk.i64_in _ (by omega)]; omega
    rw [if_pos hneg] at hs
    subst hs
    clear hx
    go_enter Tryz.func8, Tryz.ntmps8
    go_upto_region 3 with (first | (have hh := h1; go_at_call 7; refine (H7.out _ _ _ _ h1).mono ?_; rintro r w2 ⟨s, rfl, h2⟩) | (go_at_call 19; refine H19.out.mono ?_; rintro r w1 ⟨a, n, c1, rfl, h1⟩))
    have hs3 := hsz s h2.out.1
    have z1 : (⟨#[c]⟩ : ByteArray).size = 1 := rfl
    have z2 : (⟨#[45]⟩ : ByteArray).size = 1 := rfl
    have z3 : ((⟨#[c]⟩ : ByteArray) ++ (⟨#[45]⟩ : ByteArray)).size = 2 := rfl
    have k1 := fun u => HCAT.out ⟨#[c]⟩ ⟨#[45]⟩ u (by omega)
    have k2 := fun u => HCAT.out (⟨#[c]⟩ ++ ⟨#[45]⟩) s u (by omega)
    clear z1 z2 z3
    go_wp2_with fail
    go_ret
    refine ⟨_, rfl, ?_, ?_, h2.out.2⟩
    · rw [ByteArray.size_append]
      have z3 : ((⟨#[c]⟩ : ByteArray) ++ (⟨#[45]⟩ : ByteArray)).size = 2 := rfl
      omega
    · unfold ExpBs
      rw [ByteArray.data_append, Array.toList_append, h2.out.1]
      rfl
  · have hxe : x = (e : Int) := by omega
    subst hxe
    have hd : decide ((e : Int) < 0) = false := decide_eq_false hneg
    have hmx : max (e : Int) (-(e : Int)) = (e : Int) := by omega
    have hw1 : IntKind.i64.wrap (-(e : Int)) = -(e : Int) := IntWalk.i64_in _ (by omega)
    rw [if_neg hneg] at hs
    clear hx
    cases plus
    · rw [if_neg (by simp)] at hs
      subst hs
      go_enter Tryz.func8, Tryz.ntmps8
      go_upto_region 6 with (first | (have hh := h1; go_at_call 7; refine (H7.out _ _ _ _ h1).mono ?_; rintro r w2 ⟨s, rfl, h2⟩) | (go_at_call 19; refine H19.out.mono ?_; rintro r w1 ⟨a, n, c1, rfl, h1⟩))
      have hs3 := hsz s h2.out.1
      have z1 : (⟨#[c]⟩ : ByteArray).size = 1 := rfl
      have k1 := fun u => HCAT.out ⟨#[c]⟩ s u (by omega)
      clear z1
      go_wp2_with fail
      go_ret
      refine ⟨_, rfl, ?_, ?_, h2.out.2⟩
      · rw [ByteArray.size_append]
        have z3 : (⟨#[c]⟩ : ByteArray).size = 1 := rfl
        omega
      · unfold ExpBs
        rw [ByteArray.data_append, Array.toList_append, h2.out.1]
        rfl
    · rw [if_pos rfl] at hs
      subst hs
      go_enter Tryz.func8, Tryz.ntmps8
      go_upto_region 5 with (first | (have hh := h1; go_at_call 7; refine (H7.out _ _ _ _ h1).mono ?_; rintro r w2 ⟨s, rfl, h2⟩) | (go_at_call 19; refine H19.out.mono ?_; rintro r w1 ⟨a, n, c1, rfl, h1⟩))
      have hs3 := hsz s h2.out.1
      have z1 : (⟨#[c]⟩ : ByteArray).size = 1 := rfl
      have z2 : (⟨#[43]⟩ : ByteArray).size = 1 := rfl
      have z3 : ((⟨#[c]⟩ : ByteArray) ++ (⟨#[43]⟩ : ByteArray)).size = 2 := rfl
      have k1 := fun u => HCAT.out ⟨#[c]⟩ ⟨#[43]⟩ u (by omega)
      have k2 := fun u => HCAT.out (⟨#[c]⟩ ++ ⟨#[43]⟩) s u (by omega)
      clear z1 z2 z3
      go_wp2_with fail
      go_ret
      refine ⟨_, rfl, ?_, ?_, h2.out.2⟩
      · rw [ByteArray.size_append]
        have z3 : ((⟨#[c]⟩ : ByteArray) ++ (⟨#[43]⟩ : ByteArray)).size = 2 := rfl
        omega
      · unfold ExpBs
        rw [ByteArray.data_append, Array.toList_append, h2.out.1]
        rfl
end Go.Proofs.YtfbbkngonohlkaaGreatDoor
/- The law of decimal literals: for every input the law's code returns true, and nothing that was there has changed. -/
namespace Go.Proofs.YtfbbkngonohlkaaGreatDoor
open Go Go.RowKit
set_option linter.unusedVariables false
set_option linter.unusedSimpArgs false
/-- The text t: figures of q with a point ahead of the last p. -/
structure PtOk (t : ByteArray) (q p : Nat) (D : List Nat) : Prop where
  tx : t.data.toList.map UInt8.toNat = ptxt D (D.length - p)
  d : ∀ d, d ∈ D → d < 10
  l0 : 0 < D.length
  l : D.length ≤ 200
  pl : p ≤ D.length
  v : D.foldl (fun a d => a * 10 + d) 0 = q
theorem mapDig {D : List Nat} (h : ∀ d, d ∈ D → d < 10) : (D.map (fun d => UInt8.ofNat (48 + d))).map UInt8.toNat = D.map (fun d => 48 + d) := by
  rw [List.map_map]
  refine List.map_congr_left fun d hd => ?_
  have := h d hd
  simp [Nat.mod_eq_of_lt (show 48 + d < 256 by omega)]
theorem PtOk.size {t : ByteArray} {q p : Nat} {D : List Nat} (h : PtOk t q p D) : t.size ≤ 300 := by
  have h1 : t.size = (t.data.toList.map UInt8.toNat).length := by rw [List.length_map]; rfl
  have h2 : (ptxt D (D.length - p)).length = D.length + 1 := by unfold ptxt; simp; omega
  have := h.l
  rw [h1, h.tx, h2]
  omega
theorem pointed_pt {w : World} {s : ByteArray} {q p : Nat} (hs : s.data.toList = (wfigs 10 q).map (fun d => UInt8.ofNat (48 + d))) (hq : q < 18446744073709551616) (hp : p ≤ 24) :
    Calls Tryz.prog 6 #[.string s, .int .i64 (p : Int)] w fun e w' => ∃ t : ByteArray, e = .returned (.string t) ∧ Hid ((∃ D, PtOk t q p D) ∧ Fr [] w w') := by
  have hl := wfigs_len (b := 10) (by omega) (k := 20) (x := q) (by omega) (by omega)
  have hl0 := wfigs_ne (b := 10) (x := q) (by omega)
  have hsz : s.size = (wfigs 10 q).length := by rw [size_toList, hs, List.length_map]
  refine (pointed_any (s := s) (k := p) (by omega) (by omega) (by omega)).mono ?_
  rintro e w' ⟨t, rfl, h1, h2⟩
  have hD : ∀ d, d ∈ List.replicate (p - s.size) 0 ++ wfigs 10 q → d < 10 := fun d hd => by
    rcases List.mem_append.1 hd with h | h
    · have := List.eq_of_mem_replicate h; omega
    · exact wfigs_lt (by omega) q d h
  have hP : List.replicate (p - s.size) 48 ++ s.data.toList = (List.replicate (p - s.size) 0 ++ wfigs 10 q).map (fun d => UInt8.ofNat (48 + d)) := by
    rw [hs, List.map_append, List.map_replicate]
    rfl
  refine ⟨t, rfl, Lib.hid ⟨⟨List.replicate (p - s.size) 0 ++ wfigs 10 q, ?_, hD, by simp; omega, by simp; omega, by simp; omega, by rw [zeros_val, wfigs_val (by omega)]⟩, h2⟩⟩
  have h := h1.out _ rfl
  rw [hP] at h
  generalize List.replicate (p - s.size) 0 ++ wfigs 10 q = D at *
  rw [h, List.length_map, List.map_append, List.map_cons, ← List.map_take, ← List.map_drop, mapDig (fun d hd => hD d (List.mem_of_mem_take hd)), mapDig (fun d hd => hD d (List.mem_of_mem_drop hd))]
  rfl
theorem PtOk.none {t : ByteArray} {q p : Nat} {D : List Nat} (h : PtOk t q p D) (hq : q < 18446744073709551616) (hp : p ≤ 24) : LitF t q (0 - (p : Int)) :=
  litF_none h.tx h.d h.l0 h.l h.pl h.v hq hp
theorem expBs_nat {t : ByteArray} {c : UInt8} {sg e : Nat} (h : ExpBs t c sg e) (hs : sg = 0 ∨ sg = 43 ∨ sg = 45) (he : e < 301) : t.data.toList.map UInt8.toNat = expL c.toNat sg e := by
  unfold ExpBs at h
  unfold expL
  rw [h, List.map_cons, List.map_append, mapDig (fun d hd => by have := expF_dig (e := e) (by omega) d hd; omega)]
  congr 2
  rcases hs with rfl | rfl | rfl <;> rfl
theorem PtOk.exp {t u : ByteArray} {q p sg e : Nat} {c : UInt8} {D : List Nat} (h : PtOk t q p D) (hu : ExpBs u c sg e) (hc : c.toNat = 101 ∨ c.toNat = 69) (hs : sg = 0 ∨ sg = 43 ∨ sg = 45) (he : e < 301) (hq : q < 18446744073709551616) (hp : p ≤ 24) : LitF (t ++ u) q ((if sg = 45 then -(e : Int) else e) - (p : Int)) := by
  refine litF_exp (c := c.toNat) ?_ h.d h.l0 h.l h.pl h.v hq hp hc hs he
  rw [ByteArray.data_append, Array.toList_append, List.map_append, h.tx, expBs_nat hu hs he]
theorem RV.sl' {w : World} {v : Value} {x y : Int} (h : RV w v x y) : ∃ a n c b m d, v = .agg #[.bool false, .slice a n c, .slice b m d] ∧ SD w (.slice a n c) x ∧ SD w (.slice b m d) y := h
/-- A power of ten, above 0 or below. -/
theorem power_tens {w : World} {T : Int} (h0 : -330 ≤ T) (h1 : T ≤ 330) : Calls Tryz.prog 13 #[.int .i64 10, .int .i64 T] w fun e w' => ∃ a n c b m d, e = .returned (.agg #[.bool false, .slice a n c, .slice b m d]) ∧ Hid (SD w' (.slice a n c) ((10 : Int) ^ T.toNat) ∧ SD w' (.slice b m d) ((10 : Int) ^ rP T) ∧ Fr [] w w') := by
  rcases (show 0 ≤ T ∨ T < 0 by omega) with hT | hT
  · obtain ⟨p, rfl⟩ : ∃ p : Nat, T = (p : Int) := ⟨T.toNat, by omega⟩
    refine (powerOf_pos (w := w) (b := 10) (p := p) (by omega) (by omega) (by omega)).mono ?_
    rintro e w' ⟨r, rfl, h⟩
    obtain ⟨a, n, c, b, m, d, rfl, r1, r2⟩ := h.out.1.sl'
    have e1 : ((p : Int)).toNat = p := by omega
    have e2 : rP (p : Int) = 0 := by unfold rP; omega
    rw [e1, e2]
    exact ⟨a, n, c, b, m, d, rfl, r1, r2, h.out.2⟩
  · obtain ⟨p, rfl⟩ : ∃ p : Nat, T = -(p : Int) := ⟨(-T).toNat, by omega⟩
    refine (powerOf_neg (w := w) (b := 10) (p := p) (by omega) (by omega) (by omega) (by omega)).mono ?_
    rintro e w' ⟨r, rfl, h⟩
    obtain ⟨a, n, c, b, m, d, rfl, r1, r2⟩ := h.out.1.sl'
    have e1 : (-(p : Int)).toNat = 0 := by omega
    have e2 : rP (-(p : Int)) = p := by unfold rP; omega
    rw [e1, e2]
    exact ⟨a, n, c, b, m, d, rfl, r1, r2, h.out.2⟩
theorem gcd_casts (n a p : Nat) : ((n : Int) * 10 ^ a / Int.gcd ((n : Int) * 10 ^ a) (1 * (10 : Int) ^ p) = ((n * 10 ^ a / Nat.gcd (n * 10 ^ a) (10 ^ p) : Nat) : Int)) ∧ (1 * (10 : Int) ^ p / Int.gcd ((n : Int) * 10 ^ a) (1 * (10 : Int) ^ p) = ((10 ^ p / Nat.gcd (n * 10 ^ a) (10 ^ p) : Nat) : Int)) := by
  have e : (10 : Int) ^ p = ((10 ^ p : Nat) : Int) := by push_cast; rfl
  have e2 : (n : Int) * 10 ^ a = ((n * 10 ^ a : Nat) : Int) := by push_cast; rfl
  rw [Int.one_mul, e, e2]
  constructor <;> simp only [Int.gcd, Int.natAbs_natCast] <;> exact (Int.natCast_ediv _ _).symm
theorem num_lt {q a : Nat} (hq : q < 18446744073709551616) (ha : a ≤ 330) : (q : Int) * 10 ^ a < PP 1000 := by
  have h1 : (18446744073709551616 : Int) = PP 4 := by decide
  have h2 := pow_lt_PP' (b := 10) (n := a) (M := 90) (by omega) (by omega) (by omega)
  have h3 : (0 : Int) < 10 ^ a := Int.pow_pos (by omega)
  have h4 : (q : Int) * 10 ^ a ≤ PP 4 * PP 90 := Int.mul_le_mul (by omega) (by omega) (by omega) (by have := PP_pos 4; omega)
  have h5 : PP 4 * PP 90 < PP 1000 := by
    rw [← PP_add]
    have h6 := PP_mono (show 4 + 90 + 1 ≤ 1000 by omega)
    rw [PP_succ] at h6
    have := PP_pos (4 + 90)
    omega
  omega
theorem times_tens {w : World} {a b a' b' : Option Addr} {n c m d n' c' m' d' : Nat} {q A P : Nat} (hx : SD w (.slice a n c) (q : Int)) (hy : SD w (.slice b m d) 1) (hx' : SD w (.slice a' n' c') ((10 : Int) ^ A)) (hy' : SD w (.slice b' m' d') ((10 : Int) ^ P)) (hq : q < 18446744073709551616) (hA : A ≤ 330) (hP : P ≤ 330) :
    Calls Tryz.prog 11 #[.agg #[.bool false, .slice a n c, .slice b m d], .agg #[.bool false, .slice a' n' c', .slice b' m' d']] w fun e w' => ∃ a n c b m d, e = .returned (.agg #[.bool false, .slice a n c, .slice b m d]) ∧ Hid (SD w' (.slice a n c) ((q * 10 ^ A / Nat.gcd (q * 10 ^ A) (10 ^ P) : Nat) : Int) ∧ SD w' (.slice b m d) ((10 ^ P / Nat.gcd (q * 10 ^ A) (10 ^ P) : Nat) : Int) ∧ Fr [] w w') := by
  have hP4 : (18446744073709551616 : Int) ≤ PP 1000 := by
    have h1 : (18446744073709551616 : Int) = PP 4 := by decide
    rw [h1]
    exact PP_mono (by omega)
  have h10 := pow_lt_PP (b := 10) (n := P) (by omega) (by omega) (by omega)
  have h10a := pow_lt_PP (b := 10) (n := A) (by omega) (by omega) (by omega)
  have h10p : (0 : Int) < 10 ^ P := Int.pow_pos (by omega)
  obtain ⟨g1, g2⟩ := gcd_casts q A P
  refine (times_yes (N := 1000) hx hy hx' hy' (by omega) (by omega) (by omega) h10a h10 (num_lt hq hA) (by omega) (by omega)).mono ?_
  rintro e w' ⟨r, rfl, h⟩
  obtain ⟨a, n, c, b, m, d, rfl, r1, r2⟩ := h.out.1.sl'
  rw [g1] at r1
  rw [g2] at r2
  exact ⟨a, n, c, b, m, d, rfl, r1, r2, h.out.2⟩
end Go.Proofs.YtfbbkngonohlkaaGreatDoor
/- The law of decimal literals, walked. -/
namespace Go.Proofs.YtfbbkngonohlkaaGreatDoor
open Go Go.RowKit
set_option linter.unusedVariables false
set_option linter.unusedSimpArgs false
theorem i16_in {x : Int} (h0 : -300 ≤ x) (h1 : x ≤ 300) : IntKind.i16.wrap x = x := by
  unfold IntKind.wrap
  simp [IntKind.bits, IntKind.signed]
  omega
/-- In front of the exponent's if. -/
structure Lf0 (w wx : World) (a : Option Addr) (n c : Nat) (t : ByteArray) (q p : Nat) : Prop where
  sd : SD wx (.slice a n c) (q : Int)
  pt : ∃ D, PtOk t q p D
  fr : Fr [] w wx
/-- Behind it. -/
structure Lf1 (w wx : World) (a : Option Addr) (n c : Nat) (t : ByteArray) (q p : Nat) (x : Int) : Prop where
  sd : SD wx (.slice a n c) (q : Int)
  lit : LitF t q (x - (p : Int))
  fr : Fr [] w wx
set_option maxRecDepth 1000000 in
set_option maxHeartbeats 4000000 in
theorem float_law {E : Value} {w : World} {nI kI eI fI : Int} (hE : IsE E) (hG : Glb E w) (hn : Wd nI) (hk0 : 0 ≤ kI) (hk1 : kI < 256) (he0 : -32768 ≤ eI) (he1 : eI < 32768) (hf0 : 0 ≤ fI) (hf1 : fI < 256) :
    Calls Tryz.prog 3 #[.int .u64 nI, .int .u8 kI, .int .i16 eI, .int .u8 fI] w fun e w' => e = .returned (.bool true) ∧ Hid (Fr [] w w') := by
  obtain ⟨q, hq⟩ := Int.eq_ofNat_of_zero_le hn.1
  have hq64 : q < 18446744073709551616 := by have := hn.2; omega
  have H5 : Hid (Calls Tryz.prog 5 #[.slice (some ⟨w.heap.size, 0, none⟩) 1 1] (w.alloc (.cells #[.int .u64 nI] 27)) fun e w' => ∃ a n c, e = .returned (.slice a n c) ∧ Hid (SD w' (.slice a n c) (q : Int) ∧ Fr [] w w')) := by
    refine (of_sl (SW.one w hn) (by simp)).mono ?_
    rintro e w' ⟨a, n, c, rfl, hh⟩
    refine ⟨a, n, c, rfl, Lib.hid ⟨?_, ((Fr.refl [] w).alloc _).trans hh.out.2 (by simp)⟩⟩
    have := hh.out.1
    rw [val_single, hq] at this
    exact this
  have H7 : Hid (∀ u a n c, Hid (SD u (.slice a n c) (q : Int) ∧ Fr [] w u) → Calls Tryz.prog 7 #[.slice a n c] u fun e w' => ∃ s : ByteArray, e = .returned (.string s) ∧ Hid (SD w' (.slice a n c) (q : Int) ∧ s.data.toList = (wfigs 10 q).map (fun d => UInt8.ofNat (48 + d)) ∧ Fr [] w w')) := fun u a n c hh => by
    refine (digits_f hh.out.1 hq64).mono ?_
    rintro e w' ⟨s, rfl, h⟩
    exact ⟨s, rfl, hh.out.1.fr h.out.2, h.out.1, hh.out.2.trans h.out.2 (by simp)⟩
  obtain ⟨p, hp⟩ : ∃ p : Nat, p = (kI % 25).toNat := ⟨_, rfl⟩
  have e1 : kI.tmod 25 = (p : Int) := by rw [Int.tmod_eq_emod_of_nonneg hk0]; omega
  have hp24 : p ≤ 24 := by omega
  have e1b : IntKind.i64.wrap (p : Int) = (p : Int) := IntWalk.i64_in _ (by omega)
  have e1c : IntKind.u8.wrap (p : Int) = (p : Int) := by rw [IntKind.wrap_u8]; omega
  obtain ⟨x0, hx0⟩ : ∃ x0 : Int, x0 = eI.tmod 301 := ⟨_, rfl⟩
  have e2 : eI.tmod 301 = x0 := hx0.symm
  have hxb : -300 ≤ x0 ∧ x0 ≤ 300 := by
    rw [hx0]
    have h1 := Int.natAbs_tmod eI 301
    have h2 : eI.natAbs % (301 : Int).natAbs < 301 := Nat.mod_lt _ (by decide)
    omega
  have e2b : IntKind.i64.wrap x0 = x0 := IntWalk.i64_in _ (by omega)
  have e2c : IntKind.i16.wrap x0 = x0 := i16_in hxb.1 hxb.2
  obtain ⟨f3, hf3⟩ : ∃ f3 : Nat, f3 = (fI % 3).toNat := ⟨_, rfl⟩
  have e3 : fI.tmod 3 = (f3 : Int) := by rw [Int.tmod_eq_emod_of_nonneg hf0]; omega
  obtain ⟨f2, hf2⟩ : ∃ f2 : Nat, f2 = (fI % 2).toNat := ⟨_, rfl⟩
  have e4 : fI.tmod 2 = (f2 : Int) := by rw [Int.tmod_eq_emod_of_nonneg hf0]; omega
  have hf2b : f2 < 2 := by omega
  have HPT : Hid (∀ u a n c (s : ByteArray), Hid (SD u (.slice a n c) (q : Int) ∧ s.data.toList = (wfigs 10 q).map (fun d => UInt8.ofNat (48 + d)) ∧ Fr [] w u) → Calls Tryz.prog 6 #[.string s, .int .i64 (p : Int)] u fun e w' => ∃ t : ByteArray, e = .returned (.string t) ∧ Hid (Lf0 w w' a n c t q p)) := fun u a n c s hh => by
    refine (pointed_pt hh.out.2.1 hq64 hp24).mono ?_
    rintro e w' ⟨t, rfl, h⟩
    exact ⟨t, rfl, Lib.hid ⟨hh.out.1.fr h.out.2, h.out.1, hh.out.2.2.trans h.out.2 (by simp)⟩⟩
  clear hn hq hp hx0 hf3 hf2
  go_enter Tryz.func3, Tryz.ntmps3
  go_upto_if 28 with (first | (have hh := h2; go_at_call 6; refine (HPT.out _ _ _ _ _ h2).mono ?_; rintro e w3 ⟨t, rfl, h3⟩) | (have hh := h1; go_at_call 7; refine (H7.out _ _ _ _ h1).mono ?_; rintro e w2 ⟨s, rfl, h2⟩) | (go_at_call 5; refine H5.out.mono ?_; rintro e w1 ⟨a1, n1, c1, rfl, h1⟩))
  go_cut [11, 12] from 28 to 39 (fun xv tv wx => ∃ t' x, xv = .int .i64 x ∧ tv = .string t' ∧ -300 ≤ x ∧ x ≤ 300 ∧ Hid (Lf1 w wx a1 n1 c1 t' q p x))
  case first =>
    by_cases h30 : f3 = 0
    · subst h30
      have h4 : Hid (Lf1 w w3 a1 n1 c1 t q p 0) := by
        obtain ⟨D, hD⟩ := h3.out.pt
        exact ⟨h3.out.sd, hD.none hq64 hp24, h3.out.fr⟩
      go_wp2_with fail
      go_meet
      exact ⟨t, 0, rfl, rfl, by omega, by omega, h4⟩
    · have g3 : ((f3 : Int) == 0) = false := beq_eq_false_iff_ne.2 (by omega)
      obtain ⟨sg, hsg⟩ : ∃ sg : Nat, sg = if x0 < 0 then 45 else if decide (fI > 127) then 43 else 0 := ⟨_, rfl⟩
      obtain ⟨e, hee⟩ : ∃ e : Nat, e = x0.natAbs := ⟨_, rfl⟩
      have hsg2 : sg = 0 ∨ sg = 43 ∨ sg = 45 := by rw [hsg]; split <;> (try split) <;> simp
      have hxe : x0 = if sg = 45 then -(e : Int) else (e : Int) := by
        rw [hsg]
        split
        · omega
        · rw [if_neg (by split <;> omega)]; omega
      have H8 : Hid (∀ (c : UInt8), c.toNat = 101 ∨ c.toNat = 69 → ∀ (O : Obj), Calls Tryz.prog 8 #[.string ⟨#[c]⟩, .int .i64 x0, .bool (decide (fI > 127))] (w3.alloc O) fun r w' => ∃ u : ByteArray, r = .returned (.string u) ∧ t.size + u.size ≤ 9223372036854775807 ∧ Hid (Lf1 w w' a1 n1 c1 (t ++ u) q p x0)) := fun c hc O => by
        refine (exponent_any (w := w3.alloc O) (c := c) (x := x0) (plus := decide (fI > 127)) (sg := sg) (e := e) (by omega) (by omega) hsg).mono ?_
        rintro r w' ⟨u, rfl, hu, hh⟩
        obtain ⟨D, hD⟩ := h3.out.pt
        have hts := hD.size
        have hf : Fr [] w3 w' := ((Fr.refl [] w3).alloc O).trans hh.out.2 (by simp)
        refine ⟨u, rfl, by omega, Lib.hid ⟨h3.out.sd.fr hf, ?_, h3.out.fr.trans hf (by simp)⟩⟩
        have := hD.exp hh.out.1 hc hsg2 (by omega) hq64 hp24
        rw [← hxe] at this
        exact this
      have HCAT : Hid (∀ (A B : ByteArray) (u : World), A.size + B.size ≤ 9223372036854775807 → (binOp .add 9 (.string A) (.string B)).run Tryz.prog u = .ok (.string (A ++ B)) u) := fun A B u h => by rw [binOp_string_add]; exact run_string_add_sum (P := Tryz.prog) u A B h
      have HTS : Hid (-300 ≤ x0 ∧ x0 ≤ 300) := hxb
      clear h30 hsg hee hsg2 hxe
      rcases (show f2 = 0 ∨ f2 = 1 by omega) with rfl | rfl
      · go_wp2_with (go_at_call 8; refine (H8.out 101 (.inl rfl) _).mono ?_; rintro r w4 ⟨u, rfl, hu, h4⟩; have hk := HCAT.out t u w4 hu)
        go_meet
        exact ⟨_, x0, rfl, rfl, HTS.out.1, HTS.out.2, h4⟩
      · go_wp2_with (go_at_call 8; refine (H8.out 69 (.inr rfl) _).mono ?_; rintro r w4 ⟨u, rfl, hu, h4⟩; have hk := HCAT.out t u w4 hu)
        go_meet
        exact ⟨_, x0, rfl, rfl, HTS.out.1, HTS.out.2, h4⟩
  case rest =>
    obtain ⟨t', x, rfl, rfl, hx0, hx1, h4⟩ := hcut
    obtain ⟨T, hT⟩ : ∃ T : Int, T = x - (p : Int) := ⟨_, rfl⟩
    have e5 : IntKind.i64.wrap (x - (p : Int)) = T := by rw [IntWalk.i64_in _ (by omega)]; omega
    have hTb : -330 ≤ T ∧ T ≤ 330 := by omega
    obtain ⟨N, hN⟩ : ∃ N, N = rN q T := ⟨_, rfl⟩
    obtain ⟨P, hP⟩ : ∃ P, P = rP T := ⟨_, rfl⟩
    have hNe : N = q * 10 ^ T.toNat := hN
    have hPb : P ≤ 330 := by rw [hP]; unfold rP; omega
    obtain ⟨LA, hA1, hA2, hA3⟩ := words_of (N / Nat.gcd N (10 ^ P))
    obtain ⟨LB, hB1, hB2, hB3⟩ := words_of (10 ^ P / Nat.gcd N (10 ^ P))
    have h10 : 0 < 10 ^ P := Nat.pow_pos (by omega)
    have hgp : 0 < Nat.gcd N (10 ^ P) := Nat.gcd_pos_of_pos_right _ h10
    have hd10 : 0 < 10 ^ P / Nat.gcd N (10 ^ P) := Nat.div_pos (Nat.le_of_dvd h10 (Nat.gcd_dvd_right _ _)) hgp
    have hcop : Nat.gcd (N / Nat.gcd N (10 ^ P)) (10 ^ P / Nat.gcd N (10 ^ P)) = 1 := by rw [Nat.gcd_div (Nat.gcd_dvd_left _ _) (Nat.gcd_dvd_right _ _), Nat.div_self hgp]
    have hPPa : ((N / Nat.gcd N (10 ^ P) : Nat) : Int) < PP 1000 := by
      have h1 := num_lt hq64 (show T.toNat ≤ 330 by omega)
      have h2 : ((q : Int) * 10 ^ T.toNat) = ((q * 10 ^ T.toNat : Nat) : Int) := by push_cast; rfl
      rw [h2, ← hNe] at h1
      have h3 : N / Nat.gcd N (10 ^ P) ≤ N := Nat.div_le_self _ _
      omega
    have hPPb : ((10 ^ P / Nat.gcd N (10 ^ P) : Nat) : Int) < PP 1000 := by
      have h1 := pow_lt_PP (b := 10) (n := P) (by omega) (by omega) (by omega)
      have h2 : 10 ^ P / Nat.gcd N (10 ^ P) ≤ 10 ^ P := Nat.div_le_self _ _
      have h3 : ((10 : Int) ^ P) = ((10 ^ P : Nat) : Int) := by push_cast; rfl
      omega
    have hLA : LA.length ≤ 4000 := len_le_of_val hA2 hA1 (by rw [hA3]; have h5 : PP 1000 ≤ BB 4000 := by rw [← PP_4]; exact PP_mono (by omega)
                                                             omega)
    have hLB : LB.length ≤ 4000 := len_le_of_val hB2 hB1 (by rw [hB3]; have h5 : PP 1000 ≤ BB 4000 := by rw [← PP_4]; exact PP_mono (by omega)
                                                             omega)
    have hLB0 : 0 < LB.length := by
      refine Nat.pos_of_ne_zero fun h0 => ?_
      rw [List.length_eq_zero_iff.1 h0] at hB3
      simp only [val] at hB3
      omega
    have H10 : Hid (Calls Tryz.prog 10 #[.string t', .int .i64 1] wc fun e w' => ∃ a n c a2 n2 c2, e = .returned (.agg #[.int .i64 4, .bool false, .string ⟨#[]⟩, .bool false, .slice a n c, .slice a2 n2 c2, .bool false, .slice none 0 0, .slice none 0 0]) ∧ Hid (SW w' (.slice a n c) LA ∧ SW w' (.slice a2 n2 c2) LB ∧ Fr [] wc w')) := by
      refine literal_float hLB0 (by omega) (by omega) (fun u hu => ?_)
      have hl := h4.out.lit
      rw [← hT] at hl
      exact hl.mfl hE (hG.fr (h4.out.fr.trans hu (by simp)) (by simp)) hN hP ⟨hA1, hA2, hA3⟩ ⟨hB1, hB2, hB3⟩
    have H12 : Hid (∀ u, Fr [] wc u → Calls Tryz.prog 12 #[.bool false, .slice a1 n1 c1] u fun e w' => ∃ a2 n2 c2 b2 m2 d2, e = .returned (.agg #[.bool false, .slice a2 n2 c2, .slice b2 m2 d2]) ∧ Hid (SD w' (.slice a2 n2 c2) (q : Int) ∧ SD w' (.slice b2 m2 d2) 1 ∧ Fr [] u w' ∧ Fr [] wc w')) := fun u hu => by
      refine (whole_sl (h4.out.sd.fr hu)).mono ?_
      rintro e w' ⟨a2, n2, c2, b2, m2, d2, rfl, h⟩
      obtain ⟨a, n, c, b, m, d, he, r1, r2⟩ := h.out.1.sl'
      cases he
      exact ⟨_, _, _, _, _, _, rfl, r1, r2, h.out.2, hu.trans h.out.2 (by simp)⟩
    have H13 : Hid (∀ u, Fr [] wc u → Calls Tryz.prog 13 #[.int .i64 10, .int .i64 T] u fun e w' => ∃ a n c b m d, e = .returned (.agg #[.bool false, .slice a n c, .slice b m d]) ∧ Hid (SD w' (.slice a n c) ((10 : Int) ^ T.toNat) ∧ SD w' (.slice b m d) ((10 : Int) ^ P) ∧ Fr [] u w' ∧ Fr [] wc w')) := fun u hu => by
      refine (power_tens hTb.1 hTb.2).mono ?_
      rintro e w' ⟨a, n, c, b, m, d, rfl, hh⟩
      rw [← hP] at hh
      exact ⟨a, n, c, b, m, d, rfl, hh.out.1, hh.out.2.1, hh.out.2.2, hu.trans hh.out.2.2 (by simp)⟩
    have H11b : Hid (∀ u2 u a n c b m d a2 n2 c2 b2 m2 d2, Hid (SD u2 (.slice a n c) (q : Int) ∧ SD u2 (.slice b m d) 1 ∧ Fr [] wc u2 ∧ True) → Hid (SD u (.slice a2 n2 c2) ((10 : Int) ^ T.toNat) ∧ SD u (.slice b2 m2 d2) ((10 : Int) ^ P) ∧ Fr [] u2 u ∧ Fr [] wc u) → Calls Tryz.prog 11 #[.agg #[.bool false, .slice a n c, .slice b m d], .agg #[.bool false, .slice a2 n2 c2, .slice b2 m2 d2]] u fun e w' => ∃ a n c b m d, e = .returned (.agg #[.bool false, .slice a n c, .slice b m d]) ∧ Hid (SD w' (.slice a n c) ((N / Nat.gcd N (10 ^ P) : Nat) : Int) ∧ SD w' (.slice b m d) ((10 ^ P / Nat.gcd N (10 ^ P) : Nat) : Int) ∧ Fr [] wc w') ∧ Hid (Fr [] u w')) := fun u2 u a n c b m d a2 n2 c2 b2 m2 d2 hh1 hh2 => by
      obtain ⟨r1, r2, _⟩ := hh1.out
      obtain ⟨s1, s2, s3, s4⟩ := hh2.out
      refine (times_tens (r1.fr s3) (r2.fr s3) s1 s2 hq64 (by omega) hPb).mono ?_
      rintro e w' ⟨a, n, c, b, m, d, rfl, hr⟩
      rw [← hNe] at hr
      exact ⟨a, n, c, b, m, d, rfl, Lib.hid ⟨hr.out.1, hr.out.2.1, s4.trans hr.out.2.2 (by simp)⟩, Lib.hid hr.out.2.2⟩
    have H9 : Hid (∀ u1 u a n c a2 n2 c2 a7 n7 c7 b7 m7 d7, Hid (SW u1 (.slice a n c) LA ∧ SW u1 (.slice a2 n2 c2) LB ∧ Fr [] wc u1) → Fr [] u1 u → Hid (SD u (.slice a7 n7 c7) ((N / Nat.gcd N (10 ^ P) : Nat) : Int) ∧ SD u (.slice b7 m7 d7) ((10 ^ P / Nat.gcd N (10 ^ P) : Nat) : Int) ∧ Fr [] wc u) → Calls Tryz.prog 9 #[.agg #[.int .i64 4, .bool false, .string ⟨#[]⟩, .bool false, .slice a n c, .slice a2 n2 c2, .bool false, .slice none 0 0, .slice none 0 0], .agg #[.bool false, .slice a7 n7 c7, .slice b7 m7 d7]] u fun e w' => e = .returned (.bool true) ∧ Hid (Fr [] w w')) := fun u1 u a n c a2 n2 c2 a7 n7 c7 b7 m7 d7 hh1 hf hh2 => by
      obtain ⟨r1, r2, r3⟩ := hh1.out
      obtain ⟨s1, s2, s3⟩ := hh2.out
      have hi : Wp u (.slice a n c) (.slice a2 n2 c2) ((N / Nat.gcd N (10 ^ P) : Nat) : Int) ((10 ^ P / Nat.gcd N (10 ^ P) : Nat) : Int) 1000 := ⟨⟨LA, LB, r1.fr hf, hA2, hA3, r2.fr hf, hB2, hB3, by omega, by omega⟩, by omega, hcop, hPPa, hPPb⟩
      refine (isFloat_yes hi s1 s2 (by omega)).mono ?_
      rintro e w' ⟨rfl, hf2⟩
      exact ⟨rfl, (h4.out.fr.trans s3 (by simp)).trans hf2 (by simp)⟩
    clear hE hG hA1 hA2 hA3 hB1 hB2 hB3 h10 hgp hd10 hcop hPPa hPPb hLA hLB hLB0 hNe hN hP hT hPb h3 h1 h2
    go_wp2_with (first
      | (have hh := q4; go_at_call 9; refine (H9.out t1 t4 _ _ _ _ _ _ _ _ _ _ _ _ q1 ((q2.out.2.2.1.trans q3.out.2.2.1 (by simp)).trans q4f.out (by simp)) q4).mono ?_; rintro e t5 ⟨rfl, q5⟩)
      | (have hh := q3; go_at_call 11; refine (H11b.out t2 t3 _ _ _ _ _ _ _ _ _ _ _ _ (Lib.hid ⟨q2.out.1, q2.out.2.1, q2.out.2.2.2, trivial⟩) q3).mono ?_; rintro e t4 ⟨a7, n7, c7, b7, m7, d7, rfl, q4, q4f⟩)
      | (have hh := q2; go_at_call 13; refine (H13.out _ q2.out.2.2.2).mono ?_; rintro e t3 ⟨a6, n6, c6, b6, m6, d6, rfl, q3⟩)
      | (have hh := q1; go_at_call 12; refine (H12.out _ q1.out.2.2).mono ?_; rintro e t2 ⟨a5, n5, c5, b5, m5, d5, rfl, q2⟩)
      | (go_at_call 10; refine H10.out.mono ?_; rintro e t1 ⟨a8, n8, c8, a9, n9, c9, rfl, q1⟩))
    go_ret
    exact ⟨rfl, q5⟩
end Go.Proofs.YtfbbkngonohlkaaGreatDoor
