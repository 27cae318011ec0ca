/- The plain law: with dyadic weights the pick is the first type whose running sum passes the draw; else the last of positive weight. No Go in sight. -/
import Derived.Test.Qxb6618562aIgn
namespace Go.Proofs.Qxb6618562a.Fl
open Ieee
set_option linter.unusedSimpArgs false

/-- A number of at most 53 digits is kept as it is. -/
theorem exact_rn (c s : Nat) (hc : c < 2 * B) : V (rn (c * 2 ^ s)) = c * 2 ^ s := by
  by_cases h0 : c = 0
  · subst h0; rw [Nat.zero_mul, rn_zero, V_zero]
  rw [V_rn, log2_shl c s h0]
  have hl : c.log2 < 53 := (Nat.log2_lt h0).2 (by rw [show (2 : Nat) ^ 53 = 2 * B from by decide]; exact hc)
  generalize ht : c.log2 + s - 52 = t
  have e : c * 2 ^ s = c * 2 ^ (s - t) * 2 ^ t := by
    rw [Nat.mul_assoc, ← Nat.pow_add, show s - t + t = s from by omega]
  rw [e, cut_exact]

/-- Every rung stands for a number of at most 53 digits. -/
theorem V_digits (r : Nat) : ∃ c s, V r = c * 2 ^ s ∧ c < 2 * B ∧ (s = 0 ∨ B ≤ c) := by
  have hB := B_pos
  unfold V
  split
  · exact ⟨r, 0, by simp, by omega, Or.inl rfl⟩
  · have := Nat.mod_lt r hB
    exact ⟨B + r % B, r / B - 1, rfl, by omega, Or.inr (by omega)⟩

/-- The unit of the dyadic weights: 2 ^ -20, in units of 2 ^ -1074. -/
def D : Nat := 2 ^ (E - 20)
theorem D_pos : 0 < D := Nat.two_pow_pos _
theorem D_U : 2 ^ 20 * D = U := by
  unfold D U
  rw [← Nat.pow_add]
  congr 1

theorem B_D : B * D = 2 ^ 32 * U := by
  rw [← D_U, ← Nat.mul_assoc, ← Nat.pow_add, ← B_eq]

/-- A difference of a float and a dyadic number is kept as it is. -/
theorem exact_sub (r M : Nat) (hr : V r ≤ B * D) : V (rn (V r - M * D)) = V r - M * D := by
  obtain ⟨c, s, e, hc, hs⟩ := V_digits r
  have hB := B_pos
  have hE := E_eq
  by_cases h : s ≤ E - 20
  · have eD : D = 2 ^ (E - 20 - s) * 2 ^ s := by
      unfold D; rw [← Nat.pow_add, show E - 20 - s + s = E - 20 from by omega]
    have e2 : V r - M * D = (c - M * 2 ^ (E - 20 - s)) * 2 ^ s := by
      rw [e, eD, ← Nat.mul_assoc, ← Nat.sub_mul]
    rw [e2]
    exact exact_rn _ _ (by omega)
  · exfalso
    rcases hs with hs | hs
    · omega
    · have h1 : B * 2 ^ s ≤ V r := by rw [e]; exact Nat.mul_le_mul_right _ hs
      have h2 : D < 2 ^ s := by unfold D; exact Nat.pow_lt_pow_right (by omega) (by omega)
      have h3 : B * D < B * 2 ^ s := (Nat.mul_lt_mul_left hB).2 h2
      omega

theorem V_one : V (1023 * B) = U := by
  have hE := E_eq
  have h := V_form (s := E - 52) (c := B) (Nat.le_refl _) (by omega)
  rw [show (E - 52) * B + B = 1023 * B from by rw [← Nat.succ_mul, show (E - 52).succ = 1023 from by omega]] at h
  rw [h, B_eq, ← Nat.pow_add, U_eq, show 52 + (E - 52) = E from by omega]

theorem V_two_pow (j : Nat) : V ((1023 + j) * B) = 2 ^ j * U := by
  have hE := E_eq
  have h := V_form (s := E - 52 + j) (c := B) (Nat.le_refl _) (by omega)
  rw [show (E - 52 + j) * B + B = (1023 + j) * B from by rw [← Nat.succ_mul, show (E - 52 + j).succ = 1023 + j from by omega]] at h
  rw [h, B_eq, ← Nat.pow_add, U_eq, ← Nat.pow_add, show 52 + (E - 52 + j) = j + E from by omega]

theorem lt_INF {r : Nat} (h : V r ≤ 2 ^ 64 * U) : r < INF := by
  rcases Nat.lt_or_ge r INF with h1 | h1
  · exact h1
  · exfalso
    have h2 := V_le h1
    obtain ⟨j, hj⟩ : ∃ j, j = 1024 := ⟨_, rfl⟩
    have e : INF = (1023 + j) * B := by rw [hj]; decide
    rw [e, V_two_pow] at h2
    have h3 : 2 ^ 64 * U < 2 ^ 65 * U := (Nat.mul_lt_mul_right U_pos).2 (by decide)
    have h4 : 2 ^ 65 * U ≤ 2 ^ j * U := Nat.mul_le_mul_right U (Nat.pow_le_pow_right (by omega) (by omega))
    omega

theorem BD_le : B * D ≤ 2 ^ 64 * U := by
  rw [B_D]; exact Nat.mul_le_mul_right U (by decide)

/-- The sums of the weights' whole numbers of units. -/
def sumN (N : Nat → Nat) : Nat → Nat
  | 0 => 0
  | k + 1 => sumN N k + N k

theorem sumN_mono (N : Nat → Nat) {a b : Nat} (h : a ≤ b) : sumN N a ≤ sumN N b := by
  induction b with
  | zero => rw [Nat.le_zero.1 h]; exact Nat.le_refl _
  | succ b ih =>
    rcases Nat.lt_or_eq_of_le h with h1 | h1
    · have := ih (by omega); simp only [sumN]; omega
    · rw [h1]; exact Nat.le_refl _

/-- The weights are dyadic: at most 2 ^ 20, whole multiples of 2 ^ -20. -/
structure Dy (ws N : Nat → Nat) (n : Nat) : Prop where
  le : n ≤ 4096
  w : ∀ i, i < n → ∃ r, NN (ws i) r ∧ V r = N i * D
  b : ∀ i, i < n → N i ≤ 1099511627776

theorem sumN_le {ws N : Nat → Nat} {n : Nat} (h : Dy ws N n) {k : Nat} (hk : k ≤ n) : sumN N k ≤ k * 1099511627776 := by
  induction k with
  | zero => exact Nat.zero_le _
  | succ k ih =>
    have := ih (by omega)
    have := h.b k (by omega)
    simp only [sumN]; omega

theorem sumN_B {ws N : Nat → Nat} {n : Nat} (h : Dy ws N n) {k : Nat} (hk : k ≤ n) : sumN N k ≤ B := by
  have h1 := sumN_le h hk
  have h2 := h.le
  have : B = 4503599627370496 := rfl
  omega

theorem W_inj {d c : Nat} {s : Bool} (hd : d < 9223372036854775808) (h : W false d = W s c) : d = c := by
  cases s
  · exact h
  · exfalso
    have h' : d = 9223372036854775808 + c := h
    omega

theorem sum_dy {ws N : Nat → Nat} {n : Nat} (h : Dy ws N n) {k : Nat} (hk : k ≤ n) : ∃ c, c < INF ∧ sumTo ws k = W false c ∧ V c = sumN N k * D := by
  induction k with
  | zero => exact ⟨0, by decide, rfl, by rw [V_zero]; simp [sumN]⟩
  | succ k ih =>
    obtain ⟨c, hc, e1, e2⟩ := ih (by omega)
    obtain ⟨r, hr, e3⟩ := h.w k (by omega)
    have hS := sumN_B h hk
    have hB := B_pos
    have hr' : r < INF := lt_INF (by
      rw [e3]
      refine Nat.le_trans (Nat.mul_le_mul_right D ?_) BD_le
      have := sumN_B h hk
      simp only [sumN] at this; omega)
    have eV : V c + V r = sumN N (k + 1) * D := by rw [e2, e3, ← Nat.add_mul]; rfl
    have ex : V (rn (sumN N (k + 1) * D)) = sumN N (k + 1) * D := exact_rn _ _ (by omega)
    have fin : rn (sumN N (k + 1) * D) < INF := lt_INF (by rw [ex]; exact Nat.le_trans (Nat.mul_le_mul_right D hS) BD_le)
    refine ⟨rn (sumN N (k + 1) * D), fin, ?_, ex⟩
    obtain ⟨d, hd, e4⟩ := add_pos c (ws k) r (Nat.le_of_lt hc) hr
    obtain ⟨z, e5, e6⟩ := add_NN (NN_mk c (Nat.le_of_lt hc)) hr hc hr'
    have ez : z = W false d := Option.some.inj (e5.symm.trans e4)
    rw [ez] at e6
    obtain ⟨_, s, e7, _⟩ := e6
    rw [eV, Nat.min_eq_left (Nat.le_of_lt fin)] at e7
    have ed : d = rn (sumN N (k + 1) * D) := W_inj (Nat.lt_of_le_of_lt hd INF_lt) e7
    show (double.add (sumTo ws k) (ws k)).getD 0 = _
    rw [e1, e4, ed, Option.getD_some]

/-- The index of the last positive weight among the first k; 0 where there is none. -/
def lastPos (ws : Nat → Nat) : Nat → Nat
  | 0 => 0
  | k + 1 => if gt0 (ws k) = true then k else lastPos ws k

theorem zero_iff {x r : Nat} (h : NN x r) : zeroW x = decide (r = 0) := by
  unfold zeroW
  have h0 := order_NN h (NN_mk 0 (Nat.zero_le _))
  rw [W_zero] at h0
  rw [h0]
  by_cases hr : r = 0
  · subst hr; rfl
  · have h1 : ¬ ((r : Int) < ((0 : Nat) : Int)) := by omega
    have h2 : ¬ ((r : Int) = ((0 : Nat) : Int)) := by omega
    simp only [compare, compareOfLessAndEq, h1, h2, hr, if_false, decide_false]
    rfl

theorem gt_iff0 {x r : Nat} (h : NN x r) : gt0 x = decide (0 < r) := by
  have := gt_iff h (NN_mk 0 (Nat.zero_le _))
  rw [W_zero] at this
  exact this

theorem lt_iff {x y a b : Nat} (hx : NN x a) (hy : NN y b) : (double.order x y == some .lt) = decide (a < b) := by
  rw [order_NN hx hy]
  by_cases h : a < b
  · have h1 : ((a : Int) < (b : Int)) := by omega
    simp only [compare, compareOfLessAndEq, h1, h, if_true, decide_true]
    rfl
  · have h1 : ¬ ((a : Int) < (b : Int)) := by omega
    by_cases h2 : (a : Int) = (b : Int)
    · simp only [compare, compareOfLessAndEq, h1, h2, h, if_true, if_false, decide_false]
      simp
    · simp only [compare, compareOfLessAndEq, h1, h2, h, if_false, decide_false]
      rfl

theorem V_lt_iff {a b : Nat} : V a < V b ↔ a < b :=
  ⟨fun h => by
    rcases Nat.lt_or_ge a b with h' | h'
    · exact h'
    · have := V_le h'; omega, V_lt⟩

/-- One round of the pick, on dyadic weights. -/
theorem pick_round {ws N : Nat → Nat} {n : Nat} (h : Dy ws N n) {i : Nat} (hi : i < n) (r X : Nat) (hX : X ≤ B * D) (hr : V r = X - sumN N i * D) (hle : sumN N i * D ≤ X) (rest : List Nat) (l : Nat) :
    (N i = 0 → gt0 (ws i) = false ∧ pick (some (W false r)) (ws i :: rest) i l = pick (some (W false r)) rest (i + 1) l) ∧
    (N i ≠ 0 → X < sumN N (i + 1) * D → pick (some (W false r)) (ws i :: rest) i l = i) ∧
    (N i ≠ 0 → sumN N (i + 1) * D ≤ X → gt0 (ws i) = true ∧ ∃ r', V r' = X - sumN N (i + 1) * D ∧ pick (some (W false r)) (ws i :: rest) i l = pick (some (W false r')) rest (i + 1) i) := by
  obtain ⟨q, hq, e⟩ := h.w i hi
  have hD := D_pos
  have hB := B_pos
  have hS : sumN N (i + 1) * D = sumN N i * D + N i * D := by simp only [sumN]; rw [Nat.add_mul]
  have hrB : V r ≤ B * D := by omega
  have hrI : r < INF := lt_INF (Nat.le_trans hrB BD_le)
  have hqI : q < INF := lt_INF (by
    rw [e]
    refine Nat.le_trans (Nat.mul_le_mul_right D ?_) BD_le
    have := sumN_B h (show i + 1 ≤ n from hi)
    simp only [sumN] at this; omega)
  have hz0 : q = 0 ↔ N i = 0 := by
    constructor
    · intro h0
      rw [h0, V_zero] at e
      rcases Nat.mul_eq_zero.1 e.symm with h1 | h1
      · exact h1
      · omega
    · intro h0
      rw [h0, Nat.zero_mul, ← V_zero] at e
      exact V_inj e
  have hlt : ltO (some (W false r)) (ws i) = decide (X < sumN N (i + 1) * D) := by
    show (double.order (W false r) (ws i) == some .lt) = _
    rw [lt_iff (NN_mk r (Nat.le_of_lt hrI)) hq]
    rw [Bool.eq_iff_iff, decide_eq_true_iff, decide_eq_true_iff, ← V_lt_iff, hr, e]
    omega
  refine ⟨fun h0 => ?_, fun h0 hx => ?_, fun h0 hx => ?_⟩
  · have hzz := zero_iff hq
    have hgg := gt_iff0 hq
    have q0 : q = 0 := hz0.2 h0
    rw [q0] at hzz hgg
    refine ⟨by rw [hgg]; rfl, ?_⟩
    simp only [pick]
    rw [if_pos (by rw [hzz]; rfl)]
  · have hzz := zero_iff hq
    have q0 : ¬ q = 0 := fun hc => h0 (hz0.1 hc)
    simp only [pick]
    rw [if_neg (by rw [hzz]; simpa using q0), if_pos (by rw [hlt]; simpa using hx)]
  · have hzz := zero_iff hq
    have hgg := gt_iff0 hq
    have q0 : ¬ q = 0 := fun hc => h0 (hz0.1 hc)
    refine ⟨by rw [hgg]; simp; omega, rn (V r - V q), ?_, ?_⟩
    · have hle2 : N i * D ≤ V r := by omega
      rw [e, exact_sub r (N i) hrB]
      omega
    · simp only [pick]
      rw [if_neg (by rw [hzz]; simpa using q0), if_neg (by rw [hlt]; simp; omega)]
      show pick (double.sub (W false r) (ws i)) rest (i + 1) i = _
      obtain ⟨_, t, et, ht⟩ := hq
      have ht' : t = false := by
        cases t
        · rfl
        · exact absurd (ht rfl) q0
      subst ht'
      rw [et, sub_fin false false r q hrI hqI]
      have eT : tot false r (!false) q = ((V r - V q : Nat) : Int) := by
        unfold tot
        simp only [sv, Bool.not_false, if_true, Bool.false_eq_true, if_false]
        have : V q ≤ V r := by omega
        omega
      have hs : sg false (!false) (tot false r (!false) q) = false := by
        rw [eT]; unfold sg; split
        · rfl
        · simp
      rw [hs, eT, Int.natAbs_natCast]
      have fin : rn (V r - V q) < INF := lt_INF (by
        rw [e, exact_sub r (N i) hrB]
        exact Nat.le_trans (Nat.le_trans (Nat.sub_le _ _) hrB) BD_le)
      rw [Nat.min_eq_left (Nat.le_of_lt fin)]

theorem drop_cons (n : Nat) (ws : Nat → Nat) (k : Nat) (h : k < n) : ((List.range n).map ws).drop k = ws k :: ((List.range n).map ws).drop (k + 1) := by
  rw [List.drop_eq_getElem_cons (by simpa using h)]
  simp

/-- Where a running sum passes the draw: the first such index. -/
theorem pick_first {ws N : Nat → Nat} {n : Nat} (h : Dy ws N n) (X j : Nat) (hX : X ≤ B * D) (hj : j < n) (h1 : sumN N j * D ≤ X) (h2 : X < sumN N (j + 1) * D) :
    ∀ (d i r l : Nat), j = i + d → V r = X - sumN N i * D → pick (some (W false r)) (((List.range n).map ws).drop i) i l = j := by
  intro d
  induction d with
  | zero =>
    intro i r l hd hr
    obtain rfl : j = i := by omega
    rw [drop_cons n ws j hj]
    have hN : N j ≠ 0 := by
      intro h0
      simp only [sumN] at h2
      rw [h0, Nat.add_zero] at h2; omega
    exact (pick_round h hj r X hX hr h1 _ l).2.1 hN h2
  | succ d ih =>
    intro i r l hd hr
    have hle : sumN N (i + 1) * D ≤ X := Nat.le_trans (Nat.mul_le_mul_right D (sumN_mono N (show i + 1 ≤ j by omega))) h1
    have hle0 : sumN N i * D ≤ X := Nat.le_trans (Nat.mul_le_mul_right D (sumN_mono N (show i ≤ j by omega))) h1
    rw [drop_cons n ws i (by omega)]
    obtain ⟨p1, p2, p3⟩ := pick_round h (show i < n by omega) r X hX hr hle0 (((List.range n).map ws).drop (i + 1)) l
    by_cases hN : N i = 0
    · rw [(p1 hN).2]
      refine ih (i + 1) r l (by omega) ?_
      rw [hr]; simp only [sumN]; rw [hN, Nat.add_zero]
    · obtain ⟨_, r', hr', e⟩ := p3 hN hle
      rw [e]
      exact ih (i + 1) r' i (by omega) hr'

/-- Where none does: the last positive weight. -/
theorem pick_none {ws N : Nat → Nat} {n : Nat} (h : Dy ws N n) (X : Nat) (hX : X ≤ B * D) (h1 : sumN N n * D ≤ X) :
    ∀ (d i r : Nat), n = i + d → V r = X - sumN N i * D → pick (some (W false r)) (((List.range n).map ws).drop i) i (lastPos ws i) = lastPos ws n := by
  intro d
  induction d with
  | zero =>
    intro i r hd hr
    obtain rfl : n = i := by omega
    rw [List.drop_of_length_le (by simp)]
    simp only [pick]
  | succ d ih =>
    intro i r hd hr
    have hle : sumN N (i + 1) * D ≤ X := Nat.le_trans (Nat.mul_le_mul_right D (sumN_mono N (show i + 1 ≤ n by omega))) h1
    have hle0 : sumN N i * D ≤ X := Nat.le_trans (Nat.mul_le_mul_right D (sumN_mono N (show i ≤ n by omega))) h1
    rw [drop_cons n ws i (by omega)]
    obtain ⟨p1, p2, p3⟩ := pick_round h (show i < n by omega) r X hX hr hle0 (((List.range n).map ws).drop (i + 1)) (lastPos ws i)
    by_cases hN : N i = 0
    · rw [(p1 hN).2]
      have e := ih (i + 1) r (by omega) (by rw [hr]; simp only [sumN]; rw [hN, Nat.add_zero])
      rw [show lastPos ws (i + 1) = lastPos ws i from if_neg (by rw [(p1 hN).1]; decide)] at e
      exact e
    · obtain ⟨hg, r', hr', e⟩ := p3 hN hle
      rw [e]
      have e2 := ih (i + 1) r' (by omega) hr'
      rw [show lastPos ws (i + 1) = i from if_pos hg] at e2
      exact e2

end Go.Proofs.Qxb6618562a.Fl
