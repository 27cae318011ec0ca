/- Plain laws of float64 over the model of IEEE 754: a word is a sign and a rung; V is what a rung stands for in units of 2 ^ -1074; rn rounds. No Go in sight. -/
import Derived.Laws.FloatArith
namespace Go.Proofs.Qxb6618562a.Fl
open Ieee

def B : Nat := 4503599627370496
def INF : Nat := 9218868437227405312
theorem B_eq : B = 2 ^ 52 := by decide
theorem B_pos : 0 < B := by decide
theorem INF_eq : INF = 2047 * B := by decide
theorem binade_eq : double.binade = B := by decide
theorem infRung_eq : double.infRung = INF := by decide
theorem sw_eq : double.signWeight = 9223372036854775808 := by decide
theorem lp_eq : double.leastPlace = -1074 := by decide

/-- 'n / 2 ^ d' to the nearest whole number, ties to even. -/
def cut (n d : Nat) : Nat := n / 2 ^ d + (if 2 ^ d < 2 * (n % 2 ^ d) ∨ (2 ^ d = 2 * (n % 2 ^ d) ∧ (n / 2 ^ d) % 2 = 1) then 1 else 0)

theorem lt_two_log (n : Nat) : n < 2 ^ (n.log2 + 1) := by
  by_cases h : n = 0
  · subst h; simp
  · exact (Nat.log2_lt h).1 (Nat.lt_succ_self _)

theorem cut_big (n d : Nat) (h : 2 * n < 2 ^ d) : cut n d = 0 := by
  unfold cut
  rw [Nat.div_eq_of_lt (by omega), Nat.mod_eq_of_lt (by omega), if_neg (by omega)]

theorem cut_even (neg : Bool) (n d : Nat) : Toward.even.cut neg n d = cut n d := by
  have key : ∀ g, n / 2 ^ g + (decide (2 ^ g < 2 * (n % 2 ^ g)) || ((2 ^ g == 2 * (n % 2 ^ g)) && (n / 2 ^ g % 2 == 1))).toNat = cut n g := by
    intro g
    unfold cut
    congr 1
    by_cases h1 : 2 ^ g < 2 * (n % 2 ^ g)
    · simp [h1]
    · by_cases h2 : 2 ^ g = 2 * (n % 2 ^ g) ∧ (n / 2 ^ g) % 2 = 1
      · rw [if_pos (Or.inr h2)]
        simp [h2.2, h2.1.symm]
      · rw [if_neg (by omega)]
        simp only [h1, decide_false, Bool.false_or]
        by_cases h3 : 2 ^ g = 2 * (n % 2 ^ g)
        · have h4 : ¬ (n / 2 ^ g) % 2 = 1 := fun h => h2 ⟨h3, h⟩
          have : (n / 2 ^ g % 2 == 1) = false := by simpa using h4
          rw [this]; simp
        · have : (2 ^ g == 2 * (n % 2 ^ g)) = false := by simpa using h3
          rw [this]; simp
  have hg := key (min d (n.log2 + 2))
  unfold Toward.cut
  simp only [Nat.one_shiftLeft]
  refine hg.trans ?_
  by_cases h : d ≤ n.log2 + 2
  · rw [Nat.min_eq_left h]
  · have hn := lt_two_log n
    have e : 2 ^ (n.log2 + 2) = 2 * 2 ^ (n.log2 + 1) := by rw [Nat.pow_succ, Nat.mul_comm]
    have l : 2 ^ (n.log2 + 2) ≤ 2 ^ d := Nat.pow_le_pow_right (by omega) (by omega)
    rw [Nat.min_eq_right (by omega), cut_big _ _ (by omega), cut_big _ _ (by omega)]

theorem cut_shift (n d k : Nat) : cut (n * 2 ^ k) (d + k) = cut n d := by
  unfold cut
  have hk : 0 < 2 ^ k := Nat.two_pow_pos k
  rw [Nat.pow_add, Nat.mul_div_mul_right _ _ hk, Nat.mul_mod_mul_right]
  have e : 2 * (n % 2 ^ d * 2 ^ k) = 2 * (n % 2 ^ d) * 2 ^ k := by rw [Nat.mul_assoc]
  rw [e]
  congr 1
  have a1 : (2 ^ d * 2 ^ k < 2 * (n % 2 ^ d) * 2 ^ k) ↔ (2 ^ d < 2 * (n % 2 ^ d)) := Nat.mul_lt_mul_right hk
  have a2 : (2 ^ d * 2 ^ k = 2 * (n % 2 ^ d) * 2 ^ k) ↔ (2 ^ d = 2 * (n % 2 ^ d)) := Nat.mul_left_inj (by omega)
  simp only [a1, a2]

theorem cut_zero (n : Nat) : cut n 0 = n := by
  unfold cut; simp [Nat.mod_one]

theorem cut_ge (n d : Nat) : n / 2 ^ d ≤ cut n d := by unfold cut; omega
theorem cut_le (n d : Nat) : cut n d ≤ n / 2 ^ d + 1 := by unfold cut; split <;> omega

theorem cut_mono {n m : Nat} (d : Nat) (h : n ≤ m) : cut n d ≤ cut m d := by
  have h1 : n / 2 ^ d ≤ m / 2 ^ d := Nat.div_le_div_right h
  by_cases e : n / 2 ^ d = m / 2 ^ d
  · have e1 := Nat.div_add_mod n (2 ^ d)
    have e2 := Nat.div_add_mod m (2 ^ d)
    rw [← e] at e2
    unfold cut
    rw [← e]
    generalize 2 ^ d * (n / 2 ^ d) = q at *
    generalize n / 2 ^ d = t at *
    split <;> split <;> omega
  · have := cut_le n d
    have := cut_ge m d
    omega

theorem cut_exact (n d : Nat) : cut (n * 2 ^ d) d = n := by
  have := cut_shift n 0 d
  rw [Nat.zero_add, cut_zero] at this
  exact this

/-- The rung of the number 'v * 2 ^ -1074', rounded; no lid on top. -/
def rn (v : Nat) : Nat := (v.log2 - 52) * B + cut v (v.log2 - 52)

theorem rn_small (v : Nat) (h : v < 2 * B) : rn v = v := by
  have h53 : 2 * B = 2 ^ 53 := by decide
  have : v.log2 - 52 = 0 := by
    by_cases h0 : v = 0
    · subst h0; rfl
    · have := (Nat.log2_lt h0).2 (h53 ▸ h); omega
  unfold rn
  rw [this, cut_zero]; omega

/-- The kept digits of a number that has 53 of them: between B and 2 B. -/
theorem kept_bounds (v : Nat) (h : B ≤ v) : B ≤ v / 2 ^ (v.log2 - 52) ∧ v / 2 ^ (v.log2 - 52) < 2 * B := by
  have hv : v ≠ 0 := by have := B_pos; omega
  have hl : 52 ≤ v.log2 := (Nat.le_log2 hv).2 (B_eq ▸ h)
  have h1 : 2 ^ v.log2 ≤ v := Nat.log2_self_le hv
  have h2 := lt_two_log v
  have hp : 0 < 2 ^ (v.log2 - 52) := Nat.two_pow_pos _
  have e1 : 2 ^ v.log2 = B * 2 ^ (v.log2 - 52) := by rw [B_eq, ← Nat.pow_add]; congr 1; omega
  have e2 : 2 ^ (v.log2 + 1) = 2 * B * 2 ^ (v.log2 - 52) := by rw [Nat.pow_succ, e1, Nat.mul_comm _ 2, Nat.mul_assoc]
  constructor
  · rw [Nat.le_div_iff_mul_le hp]; omega
  · rw [Nat.div_lt_iff_lt_mul hp]; omega

theorem rn_mono {v u : Nat} (h : v ≤ u) : rn v ≤ rn u := by
  by_cases hv : v < B
  · rw [rn_small v (by omega)]
    by_cases hu : u < 2 * B
    · rw [rn_small u hu]; exact h
    · have := (kept_bounds u (by omega)).1
      have := cut_ge u (u.log2 - 52)
      unfold rn; omega
  · have hv0 : v ≠ 0 := by have := B_pos; omega
    have hu0 : u ≠ 0 := by omega
    have hl : v.log2 ≤ u.log2 := (Nat.le_log2 hu0).2 (Nat.le_trans (Nat.log2_self_le hv0) h)
    by_cases e : v.log2 - 52 = u.log2 - 52
    · unfold rn
      rw [e]
      have := cut_mono (u.log2 - 52) h
      omega
    · have h1 := (kept_bounds v (by omega)).2
      have h2 := cut_le v (v.log2 - 52)
      have h3 := (kept_bounds u (by omega)).1
      have h4 := cut_ge u (u.log2 - 52)
      unfold rn
      have h5 : (v.log2 - 52 + 1) * B ≤ (u.log2 - 52) * B := Nat.mul_le_mul_right _ (by omega)
      rw [Nat.succ_mul] at h5
      omega

/-- What a rung stands for, in units of 2 ^ -1074. -/
def V (r : Nat) : Nat := if r < B then r else (B + r % B) * 2 ^ (r / B - 1)

theorem log2_of {v k : Nat} (h1 : 2 ^ k ≤ v) (h2 : v < 2 ^ (k + 1)) : v.log2 = k := by
  have h0 : v ≠ 0 := by have := Nat.two_pow_pos k; omega
  have a := (Nat.le_log2 h0).2 h1
  have b := (Nat.log2_lt h0).2 h2
  omega

theorem log2_scaled {c s : Nat} (h1 : B ≤ c) (h2 : c < 2 * B) : (c * 2 ^ s).log2 = 52 + s := by
  have hp : 0 < 2 ^ s := Nat.two_pow_pos _
  apply log2_of
  · rw [Nat.pow_add, ← B_eq]; exact Nat.mul_le_mul_right _ h1
  · rw [show 52 + s + 1 = 53 + s from by omega, Nat.pow_add, show 2 ^ 53 = 2 * B from by decide]
    exact (Nat.mul_lt_mul_right hp).2 h2

theorem rn_scaled {c s : Nat} (h1 : B ≤ c) (h2 : c < 2 * B) : rn (c * 2 ^ s) = s * B + c := by
  unfold rn
  rw [log2_scaled h1 h2, show 52 + s - 52 = s from by omega, cut_exact]

theorem rn_V (r : Nat) : rn (V r) = r := by
  unfold V
  have hB := B_pos
  split
  · exact rn_small r (by omega)
  · have hm := Nat.mod_lt r hB
    have hd := Nat.div_add_mod r B
    have hq : 1 ≤ r / B := (Nat.le_div_iff_mul_le hB).2 (by omega)
    rw [rn_scaled (by omega) (by omega)]
    have : (r / B - 1) * B + B = B * (r / B) := by
      rw [← Nat.succ_mul, Nat.succ_eq_add_one, Nat.sub_add_cancel hq, Nat.mul_comm]
    omega

theorem V_lt {a b : Nat} (h : a < b) : V a < V b := by
  rcases Nat.lt_or_ge (V a) (V b) with h1 | h1
  · exact h1
  · have := rn_mono h1
    rw [rn_V, rn_V] at this
    omega
theorem V_le {a b : Nat} (h : a ≤ b) : V a ≤ V b := by
  rcases Nat.lt_or_eq_of_le h with h | h
  · exact Nat.le_of_lt (V_lt h)
  · rw [h]; exact Nat.le_refl _
theorem V_inj {a b : Nat} (h : V a = V b) : a = b := by
  have := congrArg rn h
  rwa [rn_V, rn_V] at this
theorem V_zero : V 0 = 0 := by decide
theorem V_small {r : Nat} (h : r < 2 * B) : V r = r := by
  apply Eq.symm
  have h1 := rn_V r
  unfold V at h1 ⊢
  split
  · rfl
  · have e : r / B = 1 := Nat.div_eq_of_lt_le (by omega) (by omega)
    have hd := Nat.div_add_mod r B
    rw [e] at hd
    rw [e]
    simp; omega

/-- A rung 's * B + c' with B ≤ c ≤ 2 B stands for 'c * 2 ^ s'. -/
theorem V_form {s c : Nat} (h1 : B ≤ c) (h2 : c ≤ 2 * B) : V (s * B + c) = c * 2 ^ s := by
  have hB := B_pos
  by_cases hc : c = 2 * B
  · subst hc
    have e : rn (B * 2 ^ (s + 1)) = s * B + 2 * B := by
      rw [rn_scaled (Nat.le_refl _) (by omega), Nat.succ_mul]; omega
    rw [← e]
    have h := rn_V (s * B + 2 * B)
    -- both sides are the value of one rung
    have hv : V (s * B + 2 * B) = B * 2 ^ (s + 1) := by
      unfold V
      rw [if_neg (by omega)]
      have e1 : s * B + 2 * B = (s + 2) * B := by rw [Nat.add_mul]
      rw [e1, Nat.mul_mod_left, Nat.mul_div_cancel _ hB]
      simp
    rw [e, hv, Nat.pow_succ]
    rw [Nat.mul_comm (2 ^ s) 2, ← Nat.mul_assoc, Nat.mul_comm B 2]
  · unfold V
    rw [if_neg (by omega)]
    have e0 : (s * B + c) / B = s + 1 := Nat.div_eq_of_lt_le (by rw [Nat.succ_mul]; omega) (by rw [Nat.succ_mul, Nat.succ_mul]; omega)
    have hd := Nat.div_add_mod (s * B + c) B
    rw [e0, Nat.mul_add, Nat.mul_comm B s] at hd
    rw [e0]
    rw [show s + 1 - 1 = s from by omega]
    congr 1
    omega

/-- What a rounded number stands for. -/
theorem V_rn (v : Nat) : V (rn v) = cut v (v.log2 - 52) * 2 ^ (v.log2 - 52) := by
  by_cases hv : v < B
  · rw [rn_small v (by omega), V_small (by omega)]
    have : v.log2 - 52 = 0 := by
      by_cases h0 : v = 0
      · subst h0; rfl
      · have := (Nat.log2_lt h0).2 (B_eq ▸ hv); omega
    rw [this, cut_zero]; simp
  · have ⟨h1, h2⟩ := kept_bounds v (by omega)
    have h3 := cut_ge v (v.log2 - 52)
    have h4 := cut_le v (v.log2 - 52)
    exact V_form (by omega) (by omega)


/-- Twice a rung. -/
def dbl (r : Nat) : Nat := if r < B then 2 * r else r + B

theorem V_dbl (r : Nat) : V (dbl r) = 2 * V r := by
  unfold dbl
  have hB := B_pos
  split
  · rw [V_small (r := 2 * r) (by omega), V_small (r := r) (by omega)]
  · rename_i h
    unfold V
    rw [if_neg (by omega), if_neg h, Nat.add_mod_right, Nat.add_div_right _ hB]
    have hq : 1 ≤ r / B := (Nat.le_div_iff_mul_le hB).2 (by omega)
    rw [show (r / B).succ - 1 = (r / B - 1) + 1 from by omega, Nat.pow_succ, ← Nat.mul_assoc, Nat.mul_comm _ 2]

theorem dbl_mono {a b : Nat} (h : a ≤ b) : dbl a ≤ dbl b := by
  unfold dbl; split <;> split <;> omega

theorem log2_double (v : Nat) (h : v ≠ 0) : (2 * v).log2 = v.log2 + 1 := by
  apply log2_of
  · rw [Nat.pow_succ, Nat.mul_comm]
    exact Nat.mul_le_mul_left 2 (Nat.log2_self_le h)
  · rw [Nat.pow_succ, Nat.mul_comm]
    exact (Nat.mul_lt_mul_right (by omega)).2 (lt_two_log v)

theorem rn_double (v : Nat) : rn (2 * v) = dbl (rn v) := by
  by_cases hv : v < B
  · rw [rn_small (2 * v) (by omega), rn_small v (by omega)]
    unfold dbl; rw [if_pos hv]
  · have hB := B_pos
    have hv0 : v ≠ 0 := by omega
    have hl : 52 ≤ v.log2 := (Nat.le_log2 hv0).2 (B_eq ▸ (by omega))
    have hr : B ≤ rn v := by
      have := rn_mono (show B ≤ v from by omega)
      rw [rn_small B (by omega)] at this
      exact this
    unfold dbl
    rw [if_neg (by omega)]
    unfold rn
    rw [log2_double v hv0, show v.log2 + 1 - 52 = (v.log2 - 52) + 1 from by omega, Nat.mul_comm 2 v]
    have := cut_shift v (v.log2 - 52) 1
    rw [Nat.pow_one] at this
    rw [this, Nat.succ_mul]
    omega


/-! ### Words and rungs of float64 -/
/-- The word of a sign and a rung. -/
def W (s : Bool) (r : Nat) : Nat := if s then 9223372036854775808 + r else r

theorem word_eq (s : Bool) (r : Nat) : double.word s r = W s r := by
  unfold Format.word W
  rw [sw_eq]

theorem read_rung (s : Bool) (r : Nat) (hr : r < 9223372036854775808) :
    double.read (W s r) = if r < B then .number s r (-1074)
      else if r < INF then .number s (B + r % B) (-1074 + (r / B - 1 : Nat))
      else if r = INF then .infinity s else .nan s (r - INF) := by
  have e1 : (W s r / 9223372036854775808 % 2 == 1) = s := by
    cases s
    · have : r / 9223372036854775808 = 0 := Nat.div_eq_of_lt hr
      simp [W, this]
    · have : (9223372036854775808 + r) / 9223372036854775808 = 1 := Nat.div_eq_of_lt_le (by omega) (by omega)
      simp [W, this]
  have e2 : W s r % 9223372036854775808 = r := by
    cases s
    · simp only [W, Bool.false_eq_true, if_false]; exact Nat.mod_eq_of_lt hr
    · simp only [W, if_true, Nat.add_mod_left]; exact Nat.mod_eq_of_lt hr
  unfold Format.read
  simp only [sw_eq, binade_eq, infRung_eq, lp_eq, e1, e2]

theorem INF_lt : INF < 9223372036854775808 := by decide

theorem read_inf (s : Bool) : double.read (W s INF) = .infinity s := by
  rw [read_rung s INF INF_lt, if_neg (by decide), if_neg (by decide), if_pos rfl]

theorem read_fin (s : Bool) (r : Nat) (hr : r < INF) : ∃ m p, double.read (W s r) = .number s m p ∧ -1074 ≤ p ∧ m * 2 ^ (p + 1074).toNat = V r := by
  rw [read_rung s r (Nat.lt_trans hr INF_lt)]
  unfold V
  split
  · exact ⟨_, _, rfl, Int.le_refl _, by simp⟩
  · exact ⟨_, _, rfl, by omega, by rw [show (-1074 + ((r / B - 1 : Nat) : Int) + 1074).toNat = r / B - 1 from by omega]⟩

/-- Every word is a sign and a rung. -/
theorem word_split (x : Nat) (hx : x < 18446744073709551616) : ∃ s r, x = W s r ∧ r < 9223372036854775808 := by
  by_cases h : x < 9223372036854775808
  · exact ⟨false, x, by simp [W], h⟩
  · exact ⟨true, x - 9223372036854775808, by simp [W]; omega, by omega⟩

/-! ### Rounding -/
theorem shl (m k : Nat) : m <<< k = m * 2 ^ k := Nat.shiftLeft_eq m k

theorem log2_shl (v k : Nat) (h : v ≠ 0) : (v * 2 ^ k).log2 = v.log2 + k := by
  have hp : 0 < 2 ^ k := Nat.two_pow_pos k
  apply log2_of
  · rw [Nat.pow_add]; exact Nat.mul_le_mul_right _ (Nat.log2_self_le h)
  · rw [show v.log2 + k + 1 = (v.log2 + 1) + k from by omega, Nat.pow_add]
    exact (Nat.mul_lt_mul_right hp).2 (lt_two_log v)

theorem nearest_zero (s : Bool) (p : Int) : double.nearest s 0 p = W s 0 := by
  unfold Format.nearest
  simp [word_eq]

theorem nearest_up (s : Bool) (m : Nat) (k : Nat) : double.nearest s m (-1074 + k) = W s (min (rn (m * 2 ^ k)) INF) := by
  by_cases hm : m = 0
  · subst hm
    rw [nearest_zero, Nat.zero_mul, rn_small 0 (by decide)]
    simp
  have hl := log2_shl m k hm
  unfold Format.nearest
  rw [if_neg hm]
  simp only [lp_eq, binade_eq, infRung_eq, word_eq, cut_even, shl, show double.fractionBits = 52 from rfl]
  refine congrArg (fun x => W s (min x INF)) ?_
  unfold rn
  rw [hl]
  generalize m.log2 = L at *
  by_cases h : L + k ≤ 52
  · have e : max (-1074 + (k : Int) + (L : Int) - ((52 : Nat) : Int)) (-1074) = -1074 := by omega
    rw [e]
    rw [show L + k - 52 = 0 from by omega, show ((-1074 : Int) + (k : Int) - -1074).toNat = k from by omega]
    rw [show ((-1074 : Int) - (-1074 + (k : Int))).toNat = 0 from by omega]
    simp
  · have e : max (-1074 + (k : Int) + (L : Int) - ((52 : Nat) : Int)) (-1074) = -1074 + ((L + k - 52 : Nat) : Int) := by omega
    rw [e]
    generalize hs : L + k - 52 = S
    rw [show ((-1074 : Int) + (S : Int) - -1074).toNat = S from by omega]
    congr 1
    by_cases hk : S ≤ k
    · rw [show ((-1074 : Int) + (S : Int) - (-1074 + (k : Int))).toNat = 0 from by omega, cut_zero]
      rw [show ((-1074 : Int) + (k : Int) - (-1074 + (S : Int))).toNat = k - S from by omega]
      have := cut_exact (m * 2 ^ (k - S)) S
      rw [Nat.mul_assoc, ← Nat.pow_add, show k - S + S = k from by omega] at this
      exact this.symm
    · rw [show ((-1074 : Int) + (k : Int) - (-1074 + (S : Int))).toNat = 0 from by omega]
      rw [show ((-1074 : Int) + (S : Int) - (-1074 + (k : Int))).toNat = S - k from by omega]
      have := cut_shift m (S - k) k
      rw [show S - k + k = S from by omega] at this
      simp [this]

theorem nearest_down (s : Bool) (v : Nat) (k : Nat) : double.nearest s (v * 2 ^ k) (-1074 - k) = W s (min (rn v) INF) := by
  by_cases hv : v = 0
  · subst hv
    rw [Nat.zero_mul, nearest_zero, rn_small 0 (by decide)]
    simp
  have hl := log2_shl v k hv
  have hm : v * 2 ^ k ≠ 0 := by
    have := Nat.two_pow_pos k
    exact Nat.mul_ne_zero hv (by omega)
  unfold Format.nearest
  rw [if_neg hm]
  simp only [lp_eq, binade_eq, infRung_eq, word_eq, cut_even, shl, show double.fractionBits = 52 from rfl]
  refine congrArg (fun x => W s (min x INF)) ?_
  unfold rn
  rw [hl]
  generalize v.log2 = L at *
  by_cases h : L ≤ 52
  · have e : max (-1074 - (k : Int) + ((L + k : Nat) : Int) - ((52 : Nat) : Int)) (-1074) = -1074 := by omega
    rw [e]
    rw [show L - 52 = 0 from by omega, show ((-1074 : Int) - (k : Int) - -1074).toNat = 0 from by omega]
    rw [show ((-1074 : Int) - (-1074 - (k : Int))).toNat = 0 + k from by omega]
    simp only [Nat.pow_zero, Nat.mul_one]
    rw [cut_shift]
    simp
  · have e : max (-1074 - (k : Int) + ((L + k : Nat) : Int) - ((52 : Nat) : Int)) (-1074) = -1074 + ((L - 52 : Nat) : Int) := by omega
    rw [e]
    generalize hs : L - 52 = S
    rw [show ((-1074 : Int) + (S : Int) - -1074).toNat = S from by omega]
    rw [show ((-1074 : Int) - (k : Int) - (-1074 + (S : Int))).toNat = 0 from by omega]
    rw [show ((-1074 : Int) + (S : Int) - (-1074 - (k : Int))).toNat = S + k from by omega]
    simp only [Nat.pow_zero, Nat.mul_one]
    rw [cut_shift]


/-! ### The operations on words -/
/-- A number with its sign. -/
def sv (s : Bool) (n : Nat) : Int := if s then -(n : Int) else (n : Int)

theorem signed_eq (s : Bool) (m up : Nat) : signed s m up = sv s (m * 2 ^ up) := by
  unfold signed sv; rw [shl]

theorem sv_mul (s : Bool) (n k : Nat) : sv s n * (k : Int) = sv s (n * k) := by
  unfold sv; split
  · rw [Int.neg_mul, Int.natCast_mul]
  · rw [Int.natCast_mul]

/-- The sum of two rungs, exact. -/
def tot (s : Bool) (a : Nat) (t : Bool) (b : Nat) : Int := sv s (V a) + sv t (V b)
/-- The sign of a sum. -/
def sg (s t : Bool) (T : Int) : Bool := if T = 0 then s && t else decide (T < 0)

theorem sum_fin (s t : Bool) (m n : Nat) (i j : Int) (hi : -1074 ≤ i) (hj : -1074 ≤ j) (x y : Nat) (hx : m * 2 ^ (i + 1074).toNat = x) (hy : n * 2 ^ (j + 1074).toNat = y) :
    ((Datum.number s m i).sum (Datum.number t n j)).map double.write = some (W (sg s t (sv s x + sv t y)) (min (rn (sv s x + sv t y).natAbs) INF)) := by
  unfold Datum.sum
  simp only [signed_eq, Option.map_some, Format.write]
  obtain ⟨k, hk⟩ : ∃ k : Nat, min i j = -1074 + (k : Int) := ⟨(min i j + 1074).toNat, by omega⟩
  have e1 : sv s (m * 2 ^ (i - min i j).toNat) * ((2 ^ k : Nat) : Int) = sv s x := by
    rw [sv_mul, Nat.mul_assoc, ← Nat.pow_add, ← hx]
    congr 3; omega
  have e2 : sv t (n * 2 ^ (j - min i j).toNat) * ((2 ^ k : Nat) : Int) = sv t y := by
    rw [sv_mul, Nat.mul_assoc, ← Nat.pow_add, ← hy]
    congr 3; omega
  have e3 : (sv s (m * 2 ^ (i - min i j).toNat) + sv t (n * 2 ^ (j - min i j).toNat)) * ((2 ^ k : Nat) : Int) = sv s x + sv t y := by
    rw [Int.add_mul, e1, e2]
  revert e3
  generalize sv s (m * 2 ^ (i - min i j).toNat) + sv t (n * 2 ^ (j - min i j).toNat) = T
  generalize sv s x + sv t y = X
  intro e3
  have hp : (0 : Int) < ((2 ^ k : Nat) : Int) := by have := Nat.two_pow_pos k; omega
  have z : (T = 0) ↔ (X = 0) := by
    rw [← e3]
    constructor
    · intro h; rw [h]; simp
    · intro h; rcases Int.mul_eq_zero.1 h with h | h
      · exact h
      · omega
  have l : (T < 0) ↔ (X < 0) := by
    rw [← e3]
    constructor
    · intro h; exact Int.mul_neg_of_neg_of_pos h hp
    · intro h
      by_cases h1 : T < 0
      · exact h1
      · have := Int.mul_nonneg (show 0 ≤ T from by omega) (Int.le_of_lt hp); omega
  have a : T.natAbs * 2 ^ k = X.natAbs := by rw [← e3, Int.natAbs_mul]; simp
  rw [hk, nearest_up, a]
  unfold sg
  simp only [z, l]

theorem add_fin (s t : Bool) (a b : Nat) (ha : a < INF) (hb : b < INF) :
    double.add (W s a) (W t b) = some (W (sg s t (tot s a t b)) (min (rn (tot s a t b).natAbs) INF)) := by
  obtain ⟨m, i, h1, hi, hm⟩ := read_fin s a ha
  obtain ⟨n, j, h2, hj, hn⟩ := read_fin t b hb
  unfold Format.add
  rw [h1, h2]
  exact sum_fin s t m n i j hi hj _ _ hm hn

theorem sub_fin (s t : Bool) (a b : Nat) (ha : a < INF) (hb : b < INF) :
    double.sub (W s a) (W t b) = some (W (sg s (!t) (tot s a (!t) b)) (min (rn (tot s a (!t) b).natAbs) INF)) := by
  obtain ⟨m, i, h1, hi, hm⟩ := read_fin s a ha
  obtain ⟨n, j, h2, hj, hn⟩ := read_fin t b hb
  unfold Format.sub
  rw [h1, h2]
  exact sum_fin s (!t) m n i j hi hj _ _ hm hn

/-- One, in units of 2 ^ -1074. -/
def E : Nat := 1074
theorem E_eq : E = 1074 := rfl
def U : Nat := 2 ^ E
theorem U_eq : U = 2 ^ E := rfl
theorem U_pos : 0 < U := Nat.two_pow_pos _

theorem mul_fin (s t : Bool) (a b v : Nat) (ha : a < INF) (hb : b < INF) (hv : V a * V b = v * U) :
    double.mul (W s a) (W t b) = some (W (s ^^ t) (min (rn v) INF)) := by
  obtain ⟨m, i, h1, hi, hm⟩ := read_fin s a ha
  obtain ⟨n, j, h2, hj, hn⟩ := read_fin t b hb
  unfold Format.mul
  rw [h1, h2]
  simp only [Datum.product, Option.map_some, Format.write]
  obtain ⟨I, hI⟩ : ∃ k : Nat, i = -1074 + (k : Int) := ⟨(i + 1074).toNat, by omega⟩
  obtain ⟨J, hJ⟩ : ∃ k : Nat, j = -1074 + (k : Int) := ⟨(j + 1074).toNat, by omega⟩
  subst hI hJ
  rw [show (-1074 + (I : Int) + 1074).toNat = I from by omega] at hm
  rw [show (-1074 + (J : Int) + 1074).toNat = J from by omega] at hn
  have hE : m * n * 2 ^ (I + J) = v * U := by
    rw [← hv, ← hm, ← hn, Nat.pow_add]
    rw [Nat.mul_mul_mul_comm]
  have hEE := E_eq
  by_cases h : 1074 ≤ I + J
  · rw [show (-1074 + (I : Int) + (-1074 + (J : Int))) = -1074 + ((I + J - E : Nat) : Int) from by omega, nearest_up]
    have : m * n * 2 ^ (I + J - E) = v := by
      apply Nat.eq_of_mul_eq_mul_right U_pos
      rw [← hE, U_eq, Nat.mul_assoc, ← Nat.pow_add, show I + J - E + E = I + J from by omega]
    rw [this]
  · rw [show (-1074 + (I : Int) + (-1074 + (J : Int))) = -1074 - ((E - (I + J) : Nat) : Int) from by omega]
    have : m * n = v * 2 ^ (E - (I + J)) := by
      apply Nat.eq_of_mul_eq_mul_right (Nat.two_pow_pos (I + J))
      rw [hE, U_eq, Nat.mul_assoc, ← Nat.pow_add, show E - (I + J) + (I + J) = E from by omega]
    rw [this, nearest_down]

theorem compare_congr {x y x' y' : Int} (h1 : x < y ↔ x' < y') (h2 : x = y ↔ x' = y') : compare x y = compare x' y' := by
  simp only [compare, compareOfLessAndEq, h1, h2]

theorem sv_V_lt (s t : Bool) (a b : Nat) : (sv s (V a) < sv t (V b)) ↔ (sv s a < sv t b) := by
  have h1 : ∀ x y, V x < V y ↔ x < y := fun x y => ⟨fun h => by
    rcases Nat.lt_or_ge x y with h' | h'
    · exact h'
    · have := V_le h'; omega, V_lt⟩
  have h0 : ∀ x, 0 < V x ↔ 0 < x := fun x => by have := h1 0 x; rwa [V_zero] at this
  have ha := h0 a
  have hb := h0 b
  have hab := h1 a b
  have hba := h1 b a
  generalize V a = A at *
  generalize V b = C at *
  cases s <;> cases t <;> simp only [sv, Bool.false_eq_true, if_false, if_true] <;> omega

theorem sv_V_eq (s t : Bool) (a b : Nat) : (sv s (V a) = sv t (V b)) ↔ (sv s a = sv t b) := by
  have h1 := sv_V_lt s t a b
  have h2 := sv_V_lt t s b a
  omega

theorem order_fin (s t : Bool) (a b : Nat) (ha : a ≤ INF) (hb : b ≤ INF) : double.order (W s a) (W t b) = some (compare (sv s a) (sv t b)) := by
  unfold Format.order
  by_cases ha' : a = INF
  · subst ha'
    rw [read_inf]
    by_cases hb' : b = INF
    · subst hb'
      rw [read_inf]
      cases s <;> cases t <;> decide
    · obtain ⟨n, j, h2, hj, hn⟩ := read_fin t b (by omega)
      rw [h2]
      simp only [Datum.order]
      congr 1
      have hI : 0 < INF := by decide
      cases s
      · have h : ¬ sv false INF < sv t b := by cases t <;> simp [sv] <;> omega
        have h' : ¬ sv false INF = sv t b := by cases t <;> simp [sv] <;> omega
        simp [compare, compareOfLessAndEq, h, h']
      · have h : sv true INF < sv t b := by cases t <;> simp [sv] <;> omega
        simp [compare, compareOfLessAndEq, h]
  · obtain ⟨m, i, h1, hi, hm⟩ := read_fin s a (by omega)
    rw [h1]
    by_cases hb' : b = INF
    · subst hb'
      rw [read_inf]
      simp only [Datum.order]
      congr 1
      cases t
      · have h : sv s a < sv false INF := by cases s <;> simp [sv] <;> omega
        simp [compare, compareOfLessAndEq, h]
      · have h : ¬ sv s a < sv true INF := by cases s <;> simp [sv] <;> omega
        have h' : ¬ sv s a = sv true INF := by cases s <;> simp [sv] <;> omega
        simp [compare, compareOfLessAndEq, h, h']
    · obtain ⟨n, j, h2, hj, hn⟩ := read_fin t b (by omega)
      rw [h2]
      simp only [Datum.order, signed_eq]
      congr 1
      obtain ⟨k, hk⟩ : ∃ k : Nat, min i j = -1074 + (k : Int) := ⟨(min i j + 1074).toNat, by omega⟩
      have e1 : sv s (m * 2 ^ (i - min i j).toNat) * ((2 ^ k : Nat) : Int) = sv s (V a) := by
        rw [sv_mul, Nat.mul_assoc, ← Nat.pow_add, ← hm]
        congr 3; omega
      have e2 : sv t (n * 2 ^ (j - min i j).toNat) * ((2 ^ k : Nat) : Int) = sv t (V b) := by
        rw [sv_mul, Nat.mul_assoc, ← Nat.pow_add, ← hn]
        congr 3; omega
      have hp : (0 : Int) < ((2 ^ k : Nat) : Int) := by have := Nat.two_pow_pos k; omega
      apply compare_congr
      · rw [← sv_V_lt s t a b, ← e1, ← e2]
        exact (Int.mul_lt_mul_right hp).symm
      · rw [← sv_V_eq s t a b, ← e1, ← e2]
        exact (Int.mul_eq_mul_right_iff (by omega)).symm

/-- 'float64(n)' -/
theorem ofInt (n : Int) : floatOfInt .f64 n = W (decide (n < 0)) (min (rn (n.natAbs * U)) INF) := by
  show double.nearest (decide (n < 0)) n.natAbs 0 = _
  have h := nearest_up (decide (n < 0)) n.natAbs E
  have e : (-1074 + (E : Int)) = 0 := by have := E_eq; omega
  rw [e] at h
  exact h

theorem neg_word (s : Bool) (r : Nat) (hr : r < 9223372036854775808) : Op.negFloat .f64 (W s r) = W (!s) r := by
  show W s r ^^^ 2 ^ (11 + 52) = W (!s) r
  have e : (2 : Nat) ^ (11 + 52) = 9223372036854775808 := by decide
  rw [e]
  have h : r ^^^ 9223372036854775808 = 9223372036854775808 + r := by
    have h1 : r < 2 ^ 63 := hr
    have h2 : (2 ^ 63 : Nat) ||| r = 2 ^ 63 + r := by
      have := Nat.two_pow_add_eq_or_of_lt h1 1
      simpa using this.symm
    have h3 : r ^^^ 2 ^ 63 = 2 ^ 63 ||| r := by
      apply Nat.eq_of_testBit_eq
      intro i
      rw [Nat.testBit_xor, Nat.testBit_or, Nat.testBit_two_pow]
      by_cases hi : 63 = i
      · subst hi
        simp [Nat.testBit_lt_two_pow h1]
      · simp [hi]
    have e' : (2 : Nat) ^ 63 = 9223372036854775808 := by decide
    rw [e'] at h2 h3
    rw [h3, h2]
  cases s
  · simp only [W, Bool.false_eq_true, if_false, Bool.not_false, if_true]; exact h
  · simp only [W, if_true, Bool.not_true, Bool.false_eq_true, if_false]
    rw [← h, Nat.xor_assoc, Nat.xor_self, Nat.xor_zero]

end Go.Proofs.Qxb6618562a.Fl
