/- The plain law's other half: what the generator's float and the test for a dyadic weight come to. No Go in sight. -/
import Derived.Test.Qxb6618562aFall
namespace Go.Proofs.Qxb6618562a.Fl
open Ieee
set_option linter.unusedSimpArgs false

theorem read_fin2 (s : Bool) (r : Nat) (hr : r < INF) : ∃ m p, double.read (W s r) = .number s m p ∧ -1074 ≤ p ∧ m * 2 ^ (p + 1074).toNat = V r ∧ m < 2 * B := by
  have hB := B_pos
  rw [read_rung s r (Nat.lt_trans hr INF_lt)]
  unfold V
  split
  · rename_i h
    exact ⟨_, _, rfl, Int.le_refl _, by simp, by omega⟩
  · have := Nat.mod_lt r hB
    exact ⟨_, _, rfl, by omega, by rw [show (-1074 + ((r / B - 1 : Nat) : Int) + 1074).toNat = r / B - 1 from by omega], by omega⟩

theorem whole_exact (k : Nat) (hk : k < 9007199254740992) : V (rn (k * U)) = k * U := exact_rn k E (by
  have : B = 4503599627370496 := rfl
  omega)

theorem le53 {k : Nat} (hk : k < 9007199254740992) : k ≤ 2 ^ 53 := by
  have h : (2 : Nat) ^ 53 = 9007199254740992 := by decide
  rw [h]; omega

theorem ex53 (k : Nat) (hk : k < 9007199254740992) : V (rn (k * 2 ^ (E - 53))) = k * 2 ^ (E - 53) := exact_rn k (E - 53) (by
  have : B = 4503599627370496 := rfl
  omega)

theorem fin53 (k : Nat) (hk : k < 9007199254740992) : rn (k * 2 ^ (E - 53)) < INF := lt_INF (by
  have hE := E_eq
  rw [ex53 k hk]
  have h1 : k * 2 ^ (E - 53) ≤ 2 ^ 53 * 2 ^ (E - 53) := Nat.mul_le_mul_right _ (le53 hk)
  rw [← Nat.pow_add, show 53 + (E - 53) = E from by omega, ← U_eq] at h1
  have h64 : 1 * U ≤ 2 ^ 64 * U := Nat.mul_le_mul_right U (by decide)
  rw [Nat.one_mul] at h64
  exact Nat.le_trans h1 h64)

theorem read_2p53 : double.read 4845873199050653696 = .number false B 1 := by
  have e : (4845873199050653696 : Nat) = W false (1076 * B) := by decide
  rw [e, read_rung false _ (by decide), if_neg (by decide), if_pos (by decide)]
  have h1 : 1076 * B % B = 0 := by decide
  have h2 : 1076 * B / B - 1 = 1075 := by decide
  rw [h1, h2]; rfl

theorem div_exact (k : Nat) (hk : k < 9007199254740992) : double.div (floatOfInt .f64 (k : Int)) 4845873199050653696 = some (W false (rn (k * 2 ^ (E - 53)))) := by
  have hE := E_eq
  have hBv : B = 4503599627370496 := rfl
  rw [ofInt_fin (k : Int) (by omega), show decide ((k : Int) < 0) = false from by simp, Int.natAbs_natCast]
  obtain ⟨m, i, h1, hi, hm, hm2⟩ := read_fin2 false (rn (k * U)) (by have := int_lt (k : Int) (by omega); rwa [Int.natAbs_natCast] at this)
  rw [whole_exact k hk] at hm
  unfold Format.div
  rw [h1, read_2p53]
  simp only [Datum.quotient, if_neg (show ¬ B = 0 from by decide), Option.map_some, Bool.xor_false, Format.write, show double.fractionBits + 2 = 54 from rfl]
  refine congrArg some ?_
  by_cases h0 : m = 0
  · subst h0
    rw [Nat.zero_mul] at hm
    have hk0 : k = 0 := by
      rcases Nat.mul_eq_zero.1 hm.symm with h | h
      · exact h
      · have := U_pos; omega
    subst hk0
    have e0 : 0 <<< (54 + B.log2 - Nat.log2 0) = 0 := by rw [shl, Nat.zero_mul]
    rw [e0, Nat.zero_div, Nat.zero_mod]
    rw [show 2 * 0 + ((0 : Nat) != 0).toNat = 0 from rfl, nearest_zero, Nat.zero_mul, rn_zero]
  have hl : m.log2 < 53 := (Nat.log2_lt h0).2 (by rw [show (2 : Nat) ^ 53 = 2 * B from by decide]; exact hm2)
  have hlB : B.log2 = 52 := by decide
  rw [hlB]
  obtain ⟨more, hmore⟩ : ∃ more, more = 54 + 52 - m.log2 := ⟨_, rfl⟩
  rw [← hmore]
  obtain ⟨I, hI⟩ : ∃ I : Nat, i = -1074 + (I : Int) := ⟨(i + 1074).toNat, by omega⟩
  subst hI
  rw [show (-1074 + (I : Int) + 1074).toNat = I from by omega] at hm
  have hk1 : 1 ≤ k := by
    rcases Nat.eq_zero_or_pos k with h | h
    · subst h
      rw [Nat.zero_mul] at hm
      rcases Nat.mul_eq_zero.1 hm with h | h
      · exact absurd h h0
      · have := Nat.two_pow_pos I; omega
    · exact h
  have hIb : 1022 ≤ I := by
    rcases Nat.lt_or_ge I 1022 with h | h
    · exfalso
      have a1 : m * 2 ^ I < 2 ^ 53 * 2 ^ I := (Nat.mul_lt_mul_right (Nat.two_pow_pos I)).2 (by rw [show (2 : Nat) ^ 53 = 2 * B from by decide]; exact hm2)
      rw [← Nat.pow_add, hm] at a1
      have a2 : U ≤ k * U := Nat.le_mul_of_pos_left U hk1
      have a3 : 2 ^ (53 + I) ≤ U := by unfold U; exact Nat.pow_le_pow_right (by omega) (by omega)
      omega
    · exact h
  have ed : m <<< more = m * 2 ^ (more - 52) * B := by
    rw [shl, B_eq, Nat.mul_assoc, ← Nat.pow_add, show more - 52 + 52 = more from by omega]
  have hBp := B_pos
  rw [ed, Nat.mul_div_cancel _ hBp, Nat.mul_mod_left, show ((0 : Nat) != 0).toNat = 0 from rfl, Nat.add_zero]
  rw [show (-1074 + (I : Int) - 1 - (more : Int) - 1) = -1074 + ((I - 2 - more : Nat) : Int) from by omega, nearest_up]
  have ev : 2 * (m * 2 ^ (more - 52)) * 2 ^ (I - 2 - more) = k * 2 ^ (E - 53) := by
    apply Nat.eq_of_mul_eq_mul_right (Nat.two_pow_pos 53)
    rw [Nat.mul_assoc k, ← Nat.pow_add, show E - 53 + 53 = E from by omega, ← U_eq, ← hm]
    rw [Nat.mul_comm 2, Nat.mul_assoc m, Nat.mul_assoc m, Nat.mul_assoc m]
    refine congrArg (fun x => m * x) ?_
    rw [Nat.mul_assoc, Nat.mul_assoc, Nat.mul_comm (2 ^ (I - 2 - more)), ← Nat.mul_assoc 2, show (2 : Nat) * 2 ^ 53 = 2 ^ 54 from by decide, ← Nat.pow_add, ← Nat.pow_add, show more - 52 + (54 + (I - 2 - more)) = I from by omega]
  rw [ev]
  rw [Nat.min_eq_left (Nat.le_of_lt (fin53 k hk))]

/-- The draw: not above the total. -/
theorem draw_is {ws N : Nat → Nat} {n : Nat} (h : Dy ws N n) (k : Nat) (hk : k < 9007199254740992) :
    ∃ r, double.mul (W false (rn (k * 2 ^ (E - 53)))) (sumTo ws n) = some (W false r) ∧ V r ≤ sumN N n * D ∧ r < INF := by
  have hE := E_eq
  have hBv : B = 4503599627370496 := rfl
  obtain ⟨c, hc, e1, e2⟩ := sum_dy h (Nat.le_refl n)
  have ex := ex53 k hk
  have finF := fin53 k hk
  have hv : V (rn (k * 2 ^ (E - 53))) * V c = (k * sumN N n * 2 ^ (E - 73)) * U := by
    rw [ex, e2]
    unfold D U
    rw [Nat.mul_mul_mul_comm, Nat.mul_assoc (k * sumN N n), ← Nat.pow_add, ← Nat.pow_add, show E - 53 + (E - 20) = E - 73 + E from by omega]
  have hm := mul_fin false false _ c _ finF hc hv
  have hle : rn (k * sumN N n * 2 ^ (E - 73)) ≤ c := by
    have h1 : k * sumN N n * 2 ^ (E - 73) ≤ sumN N n * D := by
      have e3 : sumN N n * D = 2 ^ 53 * sumN N n * 2 ^ (E - 73) := by
        unfold D
        rw [Nat.mul_comm (2 ^ 53), Nat.mul_assoc, ← Nat.pow_add, show 53 + (E - 73) = E - 20 from by omega]
      rw [e3]
      exact Nat.mul_le_mul_right _ (Nat.mul_le_mul_right _ (le53 hk))
    have h2 := rn_mono h1
    rw [← e2, rn_V] at h2
    exact h2
  refine ⟨rn (k * sumN N n * 2 ^ (E - 73)), ?_, ?_, Nat.lt_of_le_of_lt hle hc⟩
  · rw [e1, hm, Nat.min_eq_left (Nat.le_trans hle (Nat.le_of_lt hc))]; rfl
  · have := V_le hle
    rwa [e2] at this

/-- 'float64(int64(s)) == s' with s = w * 2 ^ 20. -/
theorem zero_cut (neg : Bool) (n d : Nat) : Toward.zero.cut neg n d = n / 2 ^ d := by
  unfold Toward.cut
  simp only [Nat.one_shiftLeft, Bool.toNat_false, Nat.add_zero]
  by_cases h : d ≤ n.log2 + 2
  · rw [Nat.min_eq_left h]
  · have hn := lt_two_log n
    have e : 2 ^ (n.log2 + 2) = 2 * 2 ^ (n.log2 + 1) := by rw [Nat.pow_succ, Nat.mul_comm]
    have l : 2 ^ (n.log2 + 2) ≤ 2 ^ d := Nat.pow_le_pow_right (by omega) (by omega)
    rw [Nat.min_eq_right (by omega), Nat.div_eq_of_lt (by omega), Nat.div_eq_of_lt (by omega)]

theorem toInt_is (s : Bool) (r : Nat) (hr : r < INF) : (double.read (W s r)).toInt .zero = some (sv s (V r / U)) := by
  obtain ⟨m, i, h1, hi, hm⟩ := read_fin s r hr
  rw [h1]
  unfold Datum.toInt
  simp only [Datum.integral, zero_cut, signed_eq, Nat.pow_zero, Nat.mul_one, shl]
  congr 2
  rw [← hm]
  have hE := E_eq
  by_cases h : 0 ≤ i
  · obtain ⟨I, rfl⟩ := Int.eq_ofNat_of_zero_le h
    rw [show ((I : Int)).toNat = I from by omega, show (-(I : Int)).toNat = 0 from by omega, show ((I : Int) + 1074).toNat = I + E from by omega]
    rw [Nat.pow_zero, Nat.div_one, Nat.pow_add, ← Nat.mul_assoc, ← U_eq, Nat.mul_div_cancel _ U_pos]
  · obtain ⟨I, hI⟩ : ∃ I : Nat, i = -(I : Int) := ⟨(-i).toNat, by omega⟩
    subst hI
    rw [show (-(I : Int)).toNat = 0 from by omega, show (- -(I : Int)).toNat = I from by omega, show (-(I : Int) + 1074).toNat = E - I from by omega]
    rw [Nat.pow_zero, Nat.mul_one, U_eq]
    have e : (2 : Nat) ^ E = 2 ^ I * 2 ^ (E - I) := by rw [← Nat.pow_add, show I + (E - I) = E from by omega]
    rw [e, Nat.mul_div_mul_right _ _ (Nat.two_pow_pos _)]

theorem c20 : NN 4697254411347427328 (1043 * B) := by
  have h : (4697254411347427328 : Nat) = W false (1043 * B) := by decide
  rw [h]; exact NN_mk _ (by decide)

theorem not_gt {x c a b : Nat} (hx : NN x a) (hc : NN c b) (h : (double.order x c == some .gt) = false) : a ≤ b := by
  rw [gt_iff hx hc] at h
  simpa using h

theorem dyadic (x r : Nat) (hx : NN x r) (hr : r ≤ 1043 * B) : ∃ s N, double.mul x 4697254411347427328 = some s ∧ floatToIntVal .f64 s .i64 = some N ∧
    ((double.order (floatOfInt .f64 N) s == some .eq) = true → ∃ M, M ≤ 1099511627776 ∧ V r = M * D) := by
  have hBv : B = 4503599627370496 := rfl
  have h20 : V (1043 * B) = 2 ^ 20 * U := V_two_pow 20
  have hVr : V r ≤ 2 ^ 20 * U := by have := V_le hr; rwa [h20] at this
  have h40 : (2 : Nat) ^ 20 * 2 ^ 20 = 2 ^ 40 := by decide
  have hrI : r < INF := lt_INF (Nat.le_trans hVr (Nat.mul_le_mul_right U (by decide)))
  obtain ⟨_, t, rfl, ht⟩ := hx
  have hw : (4697254411347427328 : Nat) = W false (1043 * B) := by decide
  have hv : V r * V (1043 * B) = (V r * 2 ^ 20) * U := by rw [h20, Nat.mul_assoc]
  have hm := mul_fin t false r (1043 * B) _ hrI (by decide) hv
  have ex : V (rn (V r * 2 ^ 20)) = V r * 2 ^ 20 := by
    obtain ⟨c, s, e, hc, _⟩ := V_digits r
    rw [e, Nat.mul_assoc, ← Nat.pow_add]
    exact exact_rn _ _ hc
  have hb40 : V r * 2 ^ 20 ≤ 2 ^ 40 * U := by
    have := Nat.mul_le_mul_right (2 ^ 20) hVr
    rw [Nat.mul_assoc, Nat.mul_comm U, ← Nat.mul_assoc, h40] at this
    exact this
  have fin : rn (V r * 2 ^ 20) < INF := lt_INF (by rw [ex]; exact Nat.le_trans hb40 (Nat.mul_le_mul_right U (by decide)))
  rw [Nat.min_eq_left (Nat.le_of_lt fin), Bool.xor_false, ← hw] at hm
  obtain ⟨M, hM⟩ : ∃ M, M = V r * 2 ^ 20 / U := ⟨_, rfl⟩
  have hMb : M ≤ 1099511627776 := by
    have := Nat.div_le_div_right (c := U) hb40
    rw [Nat.mul_div_cancel _ U_pos, ← hM] at this
    rwa [show (2 : Nat) ^ 40 = 1099511627776 from by decide] at this
  have hsv : sv t (V (rn (V r * 2 ^ 20)) / U) = (M : Int) := by
    rw [ex, ← hM]
    refine sv_NN (fun h => ?_)
    rw [hM, ht h, V_zero, Nat.zero_mul, Nat.zero_div]
  have hti := toInt_is t _ fin
  rw [hsv] at hti
  refine ⟨_, (M : Int), hm, ?_, ?_⟩
  · unfold floatToIntVal
    show (match (double.read (W t (rn (V r * 2 ^ 20)))).toInt .zero with
      | some n => if IntKind.i64.min ≤ n ∧ n ≤ IntKind.i64.max then some n else none
      | none => none) = _
    rw [hti]
    show (if IntKind.i64.min ≤ (M : Int) ∧ (M : Int) ≤ IntKind.i64.max then some (M : Int) else none) = _
    rw [if_pos]
    simp [IntKind.min, IntKind.max, IntKind.bits, IntKind.signed]
    omega
  · intro h
    refine ⟨M, hMb, ?_⟩
    rw [ofInt_fin (M : Int) (by omega), show decide ((M : Int) < 0) = false from by simp, Int.natAbs_natCast] at h
    have hfin : rn (M * U) < INF := by have := int_lt (M : Int) (by omega); rwa [Int.natAbs_natCast] at this
    have hnn : NN (W t (rn (V r * 2 ^ 20))) (rn (V r * 2 ^ 20)) := ⟨Nat.le_of_lt fin, t, rfl, fun h => by rw [ht h, V_zero, Nat.zero_mul, rn_zero]⟩
    rw [order_NN (NN_mk _ (Nat.le_of_lt hfin)) hnn] at h
    have heq : rn (M * U) = rn (V r * 2 ^ 20) := by
      by_cases hlt : ((rn (M * U) : Nat) : Int) < ((rn (V r * 2 ^ 20) : Nat) : Int)
      · simp [compare, compareOfLessAndEq, hlt] at h
      · by_cases he : ((rn (M * U) : Nat) : Int) = ((rn (V r * 2 ^ 20) : Nat) : Int)
        · exact_mod_cast he
        · simp only [compare, compareOfLessAndEq, hlt, he, if_false] at h
          exact absurd h (by decide)
    have e1 := congrArg V heq
    rw [whole_exact M (by omega), ex] at e1
    rw [← D_U, ← Nat.mul_assoc, Nat.mul_comm M, Nat.mul_assoc, Nat.mul_comm (V r)] at e1
    exact (Nat.eq_of_mul_eq_mul_left (by decide) e1).symm

end Go.Proofs.Qxb6618562a.Fl
