/- The plain laws of the two estimates: what the float operations on the road give. No Go in sight. -/
import Derived.Test.Qxb6618562aFloat
namespace Go.Proofs.Qxb6618562a.Fl
open Ieee

/-- A float that is not below zero (a negative zero among them), by its rung. -/
def NN (x r : Nat) : Prop := r ≤ INF ∧ ∃ s, x = W s r ∧ (s = true → r = 0)

theorem NN_mk (r : Nat) (h : r ≤ INF) : NN (W false r) r := ⟨h, false, rfl, fun h => by cases h⟩

theorem sv_NN {s : Bool} {r : Nat} (h : s = true → r = 0) : sv s r = (r : Int) := by
  cases s
  · rfl
  · rw [h rfl]; rfl

theorem order_NN {x y a b : Nat} (hx : NN x a) (hy : NN y b) : double.order x y = some (compare (a : Int) (b : Int)) := by
  obtain ⟨ha, s, rfl, hs⟩ := hx
  obtain ⟨hb, t, rfl, ht⟩ := hy
  rw [order_fin s t a b ha hb, sv_NN hs, sv_NN ht]

theorem W_zero : W false 0 = 0 := rfl

theorem ge_zero {x : Nat} (hx : x < 18446744073709551616) (h : (double.order x 0 == some .gt || double.order x 0 == some .eq) = true) : ∃ r, NN x r := by
  obtain ⟨s, r, rfl, hr⟩ := word_split x hx
  by_cases hi : r ≤ INF
  · refine ⟨r, hi, s, rfl, fun hs => ?_⟩
    subst hs
    have ho := order_fin true false r 0 hi (Nat.zero_le _)
    rw [W_zero] at ho
    rw [ho] at h
    by_cases h0 : r = 0
    · exact h0
    · have hl : sv true r < sv false 0 := by simp [sv]; omega
      simp [compare, compareOfLessAndEq, hl] at h
  · exfalso
    have hn : double.read (W s r) = .nan s (r - INF) := by
      rw [read_rung s r hr]
      have hB : B < INF := by decide
      rw [if_neg (by omega), if_neg (by omega), if_neg (by omega)]
    have ho : double.order (W s r) 0 = none := by
      unfold Format.order
      rw [hn]; rfl
    rw [ho] at h
    simp at h

theorem not_ge {x c a b : Nat} (hx : NN x a) (hc : NN c b) (h : (double.order x c == some .gt || double.order x c == some .eq) = false) : a < b := by
  rw [order_NN hx hc] at h
  by_cases hl : a < b
  · exact hl
  · exfalso
    by_cases he : a = b
    · subst he
      simp [compare, compareOfLessAndEq] at h
    · have h1 : ¬ ((a : Int) < (b : Int)) := by omega
      have h2 : ¬ ((a : Int) = (b : Int)) := by omega
      simp [compare, compareOfLessAndEq, h1, h2] at h

theorem le_of {x y a b : Nat} (hx : NN x a) (hy : NN y b) (h : a ≤ b) : (double.order x y == some .lt || double.order x y == some .eq) = true := by
  rw [order_NN hx hy]
  by_cases he : a = b
  · subst he; simp [compare, compareOfLessAndEq]
  · have h1 : ((a : Int) < (b : Int)) := by omega
    simp [compare, compareOfLessAndEq, h1]

theorem eq_of {s t : Bool} {a b : Nat} (ha : a ≤ INF) (hb : b ≤ INF) (h : sv s a = sv t b) : (double.order (W s a) (W t b) == some .eq) = true := by
  rw [order_fin s t a b ha hb, h]
  simp [compare, compareOfLessAndEq]

theorem gt_iff {x y a b : Nat} (hx : NN x a) (hy : NN y b) : (double.order x y == some .gt) = decide (b < a) := by
  rw [order_NN hx hy]
  by_cases h : b < a
  · have h1 : ¬ ((a : Int) < (b : Int)) := by omega
    have h2 : ¬ ((a : Int) = (b : Int)) := by omega
    have h3 : ¬ (a : Int) < b ∧ ¬ a = b := by omega
    simp [compare, compareOfLessAndEq, h]
    rw [if_neg (by omega), if_neg (by omega)]
  · have h1 : ((a : Int) < (b : Int)) ∨ ((a : Int) = (b : Int)) := by omega
    rcases h1 with h1 | h1
    · simp [compare, compareOfLessAndEq, h1]; omega
    · simp [compare, compareOfLessAndEq, h1]; omega

/-- A sum of two floats that are not below zero, where it does not pass the top. -/
theorem add_NN {x y a b : Nat} (hx : NN x a) (hy : NN y b) (ha : a < INF) (hb : b < INF) : ∃ z, double.add x y = some z ∧ NN z (min (rn (V a + V b)) INF) := by
  obtain ⟨_, s, rfl, hs⟩ := hx
  obtain ⟨_, t, rfl, ht⟩ := hy
  have e1 : sv s (V a) = (V a : Int) := sv_NN (fun h => by rw [hs h, V_zero])
  have e2 : sv t (V b) = (V b : Int) := sv_NN (fun h => by rw [ht h, V_zero])
  have e3 : (tot s a t b).natAbs = V a + V b := by unfold tot; rw [e1, e2]; omega
  refine ⟨_, add_fin s t a b ha hb, Nat.min_le_right _ _, sg s t (tot s a t b), ?_, ?_⟩
  · rw [e3]
  · intro h
    unfold sg tot at h
    rw [e1, e2] at h
    split at h
    · have : V a + V b = 0 := by omega
      rw [this, rn_small 0 (by decide)]; simp
    · simp at h; omega

/-- Two floats below 2 ^ 1023 add up to one below the top. -/
theorem rn_add_lt {a b c : Nat} (hc : B ≤ c) (ha : a < c) (hb : b < c) : rn (V a + V b) < c + B := by
  have hB := B_pos
  have h1 : V a ≤ V (c - 1) := V_le (by omega)
  have h2 : V b ≤ V (c - 1) := V_le (by omega)
  have h3 := rn_mono (show V a + V b ≤ 2 * V (c - 1) from by omega)
  rw [rn_double, rn_V] at h3
  unfold dbl at h3
  split at h3 <;> omega

/-- A whole number, as a float, is a whole number. -/
theorem V_whole (k : Nat) : ∃ M, V (rn (k * U)) = M * U ∧ (k = 0 → M = 0) := by
  by_cases hk : k = 0
  · subst hk
    exact ⟨0, by rw [Nat.zero_mul, rn_small 0 (by decide), V_zero], fun _ => rfl⟩
  rw [V_rn]
  have hU := U_pos
  generalize hs : (k * U).log2 - 52 = s
  by_cases h : E ≤ s
  · refine ⟨cut (k * U) s * 2 ^ (s - E), ?_, fun h => absurd h hk⟩
    rw [Nat.mul_assoc, U_eq, ← Nat.pow_add, show s - E + E = s from by omega]
  · refine ⟨k, ?_, fun h => absurd h hk⟩
    have e : k * U = k * 2 ^ (E - s) * 2 ^ s := by
      rw [U_eq, Nat.mul_assoc, ← Nat.pow_add, show E - s + s = E from by omega]
    rw [e, cut_exact]

theorem two64 : rn (2 ^ 64 * U) = 1087 * B := by
  have e : 2 ^ 64 * U = B * 2 ^ (12 + E) := by
    rw [B_eq, U_eq, ← Nat.pow_add, ← Nat.pow_add, ← Nat.add_assoc]
  rw [e, rn_scaled (Nat.le_refl _) (by have := B_pos; omega), ← Nat.succ_mul]
  have : 12 + E = 1086 := by have := E_eq; omega
  rw [this]

theorem int_lt (n : Int) (h : n.natAbs ≤ 18446744073709551616) : rn (n.natAbs * U) < INF := by
  have h1 := rn_mono (Nat.mul_le_mul_right U h)
  have h2 := two64
  rw [show (2 : Nat) ^ 64 = 18446744073709551616 from by decide] at h2
  rw [h2] at h1
  have : 1087 * B < INF := by decide
  omega

theorem ofInt_fin (n : Int) (h : n.natAbs ≤ 18446744073709551616) : floatOfInt .f64 n = W (decide (n < 0)) (rn (n.natAbs * U)) := by
  rw [ofInt, Nat.min_eq_left (Nat.le_of_lt (int_lt n h))]

/-- Two, as a rung. -/
theorem V_two : V (1024 * B) = 2 * U := by
  have hE := E_eq
  have h := V_form (s := E - 51) (c := B) (Nat.le_refl _) (by omega)
  rw [show (E - 51) * B + B = 1024 * B from by rw [← Nat.succ_mul, show (E - 51).succ = 1024 from by omega]] at h
  rw [h, B_eq, ← Nat.pow_add, U_eq, show 52 + (E - 51) = E + 1 from by omega, Nat.pow_succ, Nat.mul_comm]

theorem mul_inf_right (s t : Bool) (a : Nat) (h0 : 0 < a) (ha : a < INF) : double.mul (W s a) (W t INF) = some (W (s ^^ t) INF) := by
  obtain ⟨m, i, h1, hi, hm⟩ := read_fin s a ha
  have hmz : m ≠ 0 := by
    intro h
    rw [h, Nat.zero_mul] at hm
    have := V_lt h0
    rw [V_zero] at this; omega
  unfold Format.mul
  rw [h1, read_inf]
  simp only [Datum.product, if_neg hmz, Option.map_some, Format.write, word_eq, infRung_eq, Bool.xor_comm]

theorem two_word : (4611686018427387904 : Nat) = W false (1024 * B) := by decide

/-- '2 * x' -/
theorem mul_two (t : Bool) (r : Nat) (hr : r ≤ INF) : double.mul 4611686018427387904 (W t r) = some (W t (min (dbl r) INF)) := by
  rw [two_word]
  by_cases h : r = INF
  · subst h
    rw [mul_inf_right false t _ (by decide) (by decide)]
    rw [Bool.false_xor, Nat.min_eq_right (by decide)]
  · have e : V (1024 * B) * V r = (2 * V r) * U := by
      rw [V_two, Nat.mul_assoc, Nat.mul_comm U, ← Nat.mul_assoc]
    rw [mul_fin false t _ r _ (by decide) (by omega) e, rn_double, rn_V, Bool.false_xor]

/-- The product of a whole number (as a float) and a float. -/
theorem mul_int (s t : Bool) (k b M : Nat) (hk : rn (k * U) < INF) (hb : b < INF) (hM : V (rn (k * U)) = M * U) :
    double.mul (W s (rn (k * U))) (W t b) = some (W (s ^^ t) (min (rn (M * V b)) INF)) := by
  apply mul_fin s t _ b _ hk hb
  rw [hM, Nat.mul_assoc, Nat.mul_comm U, ← Nat.mul_assoc]


/-- The larger of two floats, as the law's helper has it. -/
def lg (x y : Nat) : Nat := if (double.order y x == some .gt) = true then y else x

theorem lg_NN {x y a b : Nat} (hx : NN x a) (hy : NN y b) : NN (lg x y) (max a b) := by
  unfold lg
  rw [gt_iff hy hx]
  by_cases h : a < b
  · rw [if_pos (by simpa using h), Nat.max_eq_right (by omega)]; exact hy
  · rw [if_neg (by simpa using h), Nat.max_eq_left (by omega)]; exact hx

theorem min_dbl (r : Nat) : min (dbl (min r INF)) INF = min (dbl r) INF := by
  by_cases h : r ≤ INF
  · rw [Nat.min_eq_left h]
  · have h1 : INF ≤ dbl INF := by
      have := INF_eq
      have := B_pos
      unfold dbl
      rw [if_neg (by omega)]
      omega
    have h2 := dbl_mono (show INF ≤ r from by omega)
    rw [Nat.min_eq_right (show INF ≤ r from by omega), Nat.min_eq_right h1, Nat.min_eq_right (Nat.le_trans h1 h2)]

theorem rn_zero : rn 0 = 0 := rn_small 0 (by decide)

/-- The rung of a sum lies above both, and below twice the greater. -/
theorem sum_bounds (a b : Nat) : max a b ≤ rn (V a + V b) ∧ rn (V a + V b) ≤ dbl (max a b) := by
  have h1 := V_le (Nat.le_max_left a b)
  have h2 := V_le (Nat.le_max_right a b)
  constructor
  · have : V (max a b) ≤ V a + V b := by
      rcases Nat.le_total a b with h | h
      · rw [Nat.max_eq_right h]; omega
      · rw [Nat.max_eq_left h]; omega
    have := rn_mono this
    rwa [rn_V] at this
  · have := rn_mono (show V a + V b ≤ 2 * V (max a b) from by omega)
    rwa [rn_double, rn_V] at this

theorem min_le_min {a b c : Nat} (h : a ≤ b) : min a c ≤ min b c := by omega

theorem prod_bounds (M a b : Nat) :
    min (rn (M * V (max a b))) INF ≤ min (rn (M * V (rn (V a + V b)))) INF ∧
    min (rn (M * V (rn (V a + V b)))) INF ≤ min (dbl (min (rn (M * V (max a b))) INF)) INF := by
  obtain ⟨h1, h2⟩ := sum_bounds a b
  have v1 := V_le h1
  have v2 := V_le h2
  rw [V_dbl] at v2
  have r1 := rn_mono (Nat.mul_le_mul_left M v1)
  have r2 := rn_mono (Nat.mul_le_mul_left M v2)
  rw [Nat.mul_left_comm, rn_double] at r2
  rw [min_dbl]
  exact ⟨min_le_min r1, min_le_min r2⟩

theorem prop_law (x y a b : Nat) (n : Int) (hx : NN x a) (hy : NN y b) (ha : a < 2046 * B) (hb : b < 2046 * B) (hn : n.natAbs ≤ 4611686018427387903) :
    ∃ S e e2 en lo d dl, double.add x y = some S ∧ double.mul (floatOfInt .f64 n) S = some e ∧ double.mul (floatOfInt .f64 (2 * n)) S = some e2 ∧
      double.mul (floatOfInt .f64 (-n)) S = some en ∧ double.mul (floatOfInt .f64 n.natAbs) (lg x y) = some lo ∧
      double.mul 4611686018427387904 e = some d ∧ double.mul 4611686018427387904 lo = some dl ∧
      (double.order e2 d == some .eq) = true ∧ (double.order en (Op.negFloat .f64 e) == some .eq) = true ∧
      (0 ≤ n → (double.order lo e == some .lt || double.order lo e == some .eq) = true ∧ (double.order e dl == some .lt || double.order e dl == some .eq) = true) ∧
      (n < 0 → (double.order lo (Op.negFloat .f64 e) == some .lt || double.order lo (Op.negFloat .f64 e) == some .eq) = true ∧ (double.order (Op.negFloat .f64 e) dl == some .lt || double.order (Op.negFloat .f64 e) dl == some .eq) = true) := by
  have hI : INF = 2047 * B := INF_eq
  have hB := B_pos
  obtain ⟨S, hS, hSN⟩ := add_NN hx hy (by omega) (by omega)
  have hr := rn_add_lt (c := 2046 * B) (by omega) ha hb
  have hlt : rn (V a + V b) < INF := by omega
  have hbd := fun M => prod_bounds M a b
  rw [Nat.min_eq_left (by omega)] at hSN
  obtain ⟨_, sS, rfl, hsS⟩ := hSN
  generalize hrS : rn (V a + V b) = rS at *
  obtain ⟨M, hM, hM0⟩ := V_whole n.natAbs
  have hk := int_lt n (by omega)
  have hk2 := int_lt (2 * n) (by omega)
  have e2abs : (2 * n).natAbs * U = 2 * (n.natAbs * U) := by rw [Int.natAbs_mul, Nat.mul_assoc]; rfl
  have hM2 : V (rn ((2 * n).natAbs * U)) = 2 * M * U := by
    rw [e2abs, rn_double, V_dbl, hM, Nat.mul_assoc]
  have m1 := mul_int (decide (n < 0)) sS n.natAbs rS M hk hlt hM
  have m2 := mul_int (decide (2 * n < 0)) sS (2 * n).natAbs rS (2 * M) hk2 hlt hM2
  have m3 := mul_int (decide (-n < 0)) sS n.natAbs rS M hk hlt hM
  have hLN := lg_NN hx hy
  obtain ⟨_, sl, hl, hsl⟩ := hLN
  have hmax : max a b < INF := by omega
  have m4 := mul_int false sl n.natAbs (max a b) M hk hmax hM
  have f1 := ofInt_fin n (by omega)
  have f2 := ofInt_fin (2 * n) (by omega)
  have f3 := ofInt_fin (-n) (by omega)
  have f4 := ofInt_fin (n.natAbs : Int) (by omega)
  rw [Int.natAbs_neg] at f3
  rw [Int.natAbs_natCast, show decide ((n.natAbs : Int) < 0) = false from by simp] at f4
  rw [← f1] at m1
  rw [← f2] at m2
  rw [← f3] at m3
  rw [← f4, ← hl] at m4
  have c1 : min (rn (M * V rS)) INF ≤ INF := Nat.min_le_right _ _
  have c4 : min (rn (M * V (max a b))) INF ≤ INF := Nat.min_le_right _ _
  have er2 : min (rn (2 * M * V rS)) INF = min (dbl (min (rn (M * V rS)) INF)) INF := by
    rw [min_dbl, Nat.mul_assoc, rn_double]
  rw [er2] at m2
  have hbdM := hbd M
  have z1 : sS = true → min (rn (M * V rS)) INF = 0 := by
    intro h; rw [hsS h, V_zero, Nat.mul_zero, rn_zero]; simp
  have z0 : n = 0 → min (rn (M * V rS)) INF = 0 := by
    intro h; rw [hM0 (by omega), Nat.zero_mul, rn_zero]; simp
  have z4 : sl = true → min (rn (M * V (max a b))) INF = 0 := by
    intro h; rw [hsl h, V_zero, Nat.mul_zero, rn_zero]; simp
  generalize min (rn (M * V rS)) INF = re at *
  generalize min (rn (M * V (max a b))) INF = rl at *
  clear hbd hM hM2
  have d1 := mul_two (decide (n < 0) ^^ sS) re c1
  have d2 := mul_two (false ^^ sl) rl c4
  have hIlt := INF_lt
  have ng := neg_word (decide (n < 0) ^^ sS) re (by omega)
  have nnlo : NN (W (false ^^ sl) rl) rl := ⟨c4, _, rfl, by simpa using z4⟩
  have nndl : NN (W (false ^^ sl) (min (dbl rl) INF)) (min (dbl rl) INF) := ⟨Nat.min_le_right _ _, _, rfl, fun h => by
    have h' : sl = true := by simpa using h
    rw [z4 h', show dbl 0 = 0 from rfl, Nat.zero_min]⟩
  refine ⟨_, _, _, _, _, _, _, hS, m1, m2, m3, m4, d1, d2, ?_, ?_, ?_, ?_⟩
  · apply eq_of (Nat.min_le_right _ _) (Nat.min_le_right _ _)
    rw [show decide (2 * n < 0) = decide (n < 0) from by simp; omega]
  · rw [ng]
    apply eq_of c1 c1
    by_cases h0 : n = 0
    · rw [z0 h0]; cases sS <;> simp [sv]
    · rw [show decide (-n < 0) = !decide (n < 0) from by
        by_cases h : n < 0
        · rw [decide_eq_true h, decide_eq_false (by omega)]; rfl
        · rw [decide_eq_false h, decide_eq_true (by omega)]; rfl]
      rw [Bool.not_xor]
  · intro hn0
    have hd : decide (n < 0) = false := by simp; omega
    have nne : NN (W (decide (n < 0) ^^ sS) re) re := ⟨c1, _, rfl, by rw [hd]; simpa using z1⟩
    exact ⟨le_of nnlo nne hbdM.1, le_of nne nndl hbdM.2⟩
  · intro hn0
    have hd : decide (n < 0) = true := by simpa using hn0
    have nne : NN (Op.negFloat .f64 (W (decide (n < 0) ^^ sS) re)) re := by
      rw [ng]
      exact ⟨c1, _, rfl, by rw [hd]; simpa using z1⟩
    exact ⟨le_of nnlo nne hbdM.1, le_of nne nndl hbdM.2⟩


/-- The product of a whole number that is not below zero and a float that is not. -/
theorem mul_NN (n : Int) (y b M : Nat) (hn0 : 0 ≤ n) (hn : n.natAbs ≤ 18446744073709551616) (hM : V (rn (n.natAbs * U)) = M * U) (hy : NN y b) (hb : b < INF) :
    ∃ z, double.mul (floatOfInt .f64 n) y = some z ∧ NN z (min (rn (M * V b)) INF) := by
  obtain ⟨_, t, rfl, ht⟩ := hy
  rw [ofInt_fin n hn, show decide (n < 0) = false from by simp; omega]
  refine ⟨_, mul_int false t n.natAbs b M (int_lt n hn) hb hM, Nat.min_le_right _ _, _, rfl, fun h => ?_⟩
  have h' : t = true := by simpa using h
  rw [ht h', V_zero, Nat.mul_zero, rn_zero, Nat.zero_min]

theorem two_NN {z r : Nat} (hz : NN z r) : ∃ d, double.mul 4611686018427387904 z = some d ∧ NN d (min (dbl r) INF) := by
  obtain ⟨hr, t, rfl, ht⟩ := hz
  refine ⟨_, mul_two t r hr, Nat.min_le_right _ _, _, rfl, fun h => ?_⟩
  rw [ht h, show dbl 0 = 0 from rfl, Nat.zero_min]

theorem add_small {x y a b : Nat} (c : Nat) (hx : NN x a) (hy : NN y b) (hc : B ≤ c) (hcI : c + B ≤ INF) (ha : a < c) (hb : b < c) :
    ∃ z, double.add x y = some z ∧ NN z (rn (V a + V b)) ∧ rn (V a + V b) < c + B := by
  have hB := B_pos
  obtain ⟨z, h1, h2⟩ := add_NN hx hy (by omega) (by omega)
  have h3 := rn_add_lt hc ha hb
  rw [Nat.min_eq_left (by omega)] at h2
  exact ⟨z, h1, h2, h3⟩

theorem eq_NN {x y a : Nat} (hx : NN x a) (hy : NN y a) : (double.order x y == some .eq) = true := by
  rw [order_NN hx hy]; simp [compare, compareOfLessAndEq]

theorem grow_law (x y x' y' a b c d : Nat) (n m : Int) (hx : NN x a) (hy : NN y b) (hx' : NN x' c) (hy' : NN y' d)
    (ha : a < 2045 * B) (hb : b < 2045 * B) (hc : c < 2045 * B) (hd : d < 2045 * B) (hn0 : 0 ≤ n) (hm0 : 0 ≤ m) (hn : n ≤ 4611686018427387903) (hm : m ≤ 4611686018427387903) :
    ∃ C D S S' Ss e eb es lo dl, double.add x x' = some C ∧ double.add y y' = some D ∧ double.add x y = some S ∧ double.add C D = some S' ∧ double.add y x = some Ss ∧
      double.mul (floatOfInt .f64 n) S = some e ∧ double.mul (floatOfInt .f64 (n + m)) S' = some eb ∧ double.mul (floatOfInt .f64 n) Ss = some es ∧
      double.mul (floatOfInt .f64 n) (lg x y) = some lo ∧ double.mul 4611686018427387904 lo = some dl ∧
      (double.order e eb == some .lt || double.order e eb == some .eq) = true ∧ (double.order es e == some .eq) = true ∧
      (double.order lo e == some .lt || double.order lo e == some .eq) = true ∧ (double.order e dl == some .lt || double.order e dl == some .eq) = true := by
  have hI : INF = 2047 * B := INF_eq
  have hB := B_pos
  obtain ⟨C, h1, hC, lC⟩ := add_small (2045 * B) hx hx' (by omega) (by omega) ha hc
  obtain ⟨D, h2, hD, lD⟩ := add_small (2045 * B) hy hy' (by omega) (by omega) hb hd
  obtain ⟨S, h3, hS, lS⟩ := add_small (2045 * B) hx hy (by omega) (by omega) ha hb
  obtain ⟨Ss, h5, hSs, lSs⟩ := add_small (2045 * B) hy hx (by omega) (by omega) hb ha
  have gC : a ≤ rn (V a + V c) := by have := (sum_bounds a c).1; omega
  have gD : b ≤ rn (V b + V d) := by have := (sum_bounds b d).1; omega
  generalize hrC : rn (V a + V c) = rC at *
  generalize hrD : rn (V b + V d) = rD at *
  obtain ⟨S', h4, hS', lS'⟩ := add_small (2046 * B) hC hD (by omega) (by omega) (by omega) (by omega)
  rw [Nat.add_comm (V b) (V a)] at hSs lSs
  have gS : V (rn (V a + V b)) ≤ V (rn (V rC + V rD)) := V_le (rn_mono (Nat.add_le_add (V_le gC) (V_le gD)))
  obtain ⟨M, hM, _⟩ := V_whole n.natAbs
  obtain ⟨M', hM', _⟩ := V_whole (n + m).natAbs
  have gM : M ≤ M' := by
    have h := V_le (rn_mono (Nat.mul_le_mul_right U (show n.natAbs ≤ (n + m).natAbs from by omega)))
    rw [hM, hM'] at h
    exact Nat.le_of_mul_le_mul_right h U_pos
  have hbd := prod_bounds M a b
  generalize hrS : rn (V a + V b) = rS at *
  generalize hrS' : rn (V rC + V rD) = rS' at *
  obtain ⟨e, h6, he⟩ := mul_NN n S _ M hn0 (by omega) hM hS (by omega)
  obtain ⟨eb, h7, heb⟩ := mul_NN (n + m) S' _ M' (by omega) (by omega) hM' hS' (by omega)
  obtain ⟨es, h8, hes⟩ := mul_NN n Ss _ M hn0 (by omega) hM hSs (by omega)
  obtain ⟨lo, h9, hlo⟩ := mul_NN n (lg x y) _ M hn0 (by omega) hM (lg_NN hx hy) (by omega)
  obtain ⟨dl, h10, hdl⟩ := two_NN hlo
  have g1 : min (rn (M * V rS)) INF ≤ min (rn (M' * V rS')) INF := min_le_min (rn_mono (Nat.mul_le_mul gM gS))
  exact ⟨C, D, S, S', Ss, e, eb, es, lo, dl, h1, h2, h3, h4, h5, h6, h7, h8, h9, h10, le_of he heb g1, eq_NN hes he, le_of hlo he hbd.1, le_of he hdl hbd.2⟩

end Go.Proofs.Qxb6618562a.Fl
