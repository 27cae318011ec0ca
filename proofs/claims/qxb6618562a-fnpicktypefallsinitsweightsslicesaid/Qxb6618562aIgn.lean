/- The plain law: a weight of zero put in at any place changes nothing of the pick, and what is picked has positive weight. No Go in sight. -/
import Derived.Test.Qxb6618562aPick
namespace Go.Proofs.Qxb6618562a.Fl
open Ieee

def ge0 (w : Nat) : Bool := double.order w 0 == some .gt || double.order w 0 == some .eq
def gt0 (w : Nat) : Bool := double.order w 0 == some .gt

theorem gt_of_nonzero {w : Nat} (h : ge0 w = true) (hz : zeroW w = false) : gt0 w = true := by
  unfold ge0 at h; unfold zeroW at hz; unfold gt0
  rw [hz, Bool.or_false] at h; exact h
theorem nonzero_of_gt {w : Nat} (h : gt0 w = true) : zeroW w = false := by
  unfold gt0 at h; unfold zeroW
  have e : double.order w 0 = some .gt := by simpa using h
  rw [e]; rfl
theorem zero_is : zeroW 0 = true := by
  have h := order_NN (NN_mk 0 (Nat.zero_le _)) (NN_mk 0 (Nat.zero_le _))
  rw [W_zero] at h
  unfold zeroW
  rw [h]; rfl

def shift (c j : Nat) : Nat := if c ≤ j then j + 1 else j

theorem pick_last (ws : List Nat) (h : ∃ w ∈ ws, zeroW w = false) : ∀ (u : Option Nat) (i l l' : Nat), pick u ws i l = pick u ws i l' := by
  induction ws with
  | nil => obtain ⟨w, hw, _⟩ := h; cases hw
  | cons w ws ih =>
    intro u i l l'
    simp only [pick]
    by_cases hz : zeroW w = true
    · rw [if_pos hz, if_pos hz]
      refine ih ?_ u (i + 1) l l'
      obtain ⟨x, hx, hx2⟩ := h
      rcases List.mem_cons.1 hx with rfl | hx
      · rw [hz] at hx2; cases hx2
      · exact ⟨x, hx, hx2⟩
    · rw [if_neg hz, if_neg hz]

theorem pick_shift (c : Nat) (b : List Nat) : ∀ (u : Option Nat) (i l : Nat), c ≤ i → pick u b (i + 1) (shift c l) = shift c (pick u b i l) := by
  induction b with
  | nil => intro u i l _; rfl
  | cons w b ih =>
    intro u i l h
    have e : shift c i = i + 1 := if_pos h
    simp only [pick]
    by_cases hz : zeroW w = true
    · rw [if_pos hz, if_pos hz]; exact ih u (i + 1) l (by omega)
    · rw [if_neg hz, if_neg hz]
      by_cases hl : ltO u w = true
      · rw [if_pos hl, if_pos hl, e]
      · rw [if_neg hl, if_neg hl]
        have := ih (u.bind fun v => double.sub v w) (i + 1) i (by omega)
        rw [e] at this
        exact this

theorem pick_insert (z : Nat) (hz : zeroW z = true) (a b : List Nat) : ∀ (u : Option Nat) (i l : Nat),
    pick u (a ++ z :: b) i (shift (i + a.length) l) = shift (i + a.length) (pick u (a ++ b) i l) := by
  induction a with
  | nil =>
    intro u i l
    simp only [List.nil_append, List.length_nil, Nat.add_zero, pick]
    rw [if_pos hz]
    exact pick_shift i b u i l (Nat.le_refl _)
  | cons w a ih =>
    intro u i l
    have e : i + (w :: a).length = (i + 1) + a.length := by simp; omega
    have e2 : shift ((i + 1) + a.length) i = i := if_neg (by omega)
    simp only [List.cons_append, pick]
    rw [e]
    by_cases hw : zeroW w = true
    · rw [if_pos hw, if_pos hw]; exact ih u (i + 1) l
    · rw [if_neg hw, if_neg hw]
      by_cases hl : ltO u w = true
      · rw [if_pos hl, if_pos hl, e2]
      · rw [if_neg hl, if_neg hl]
        have := ih (u.bind fun v => double.sub v w) (i + 1) i
        rw [e2] at this
        exact this

theorem pick_is (ws : List Nat) : ∀ (u : Option Nat) (i l : Nat), (∃ w ∈ ws, zeroW w = false) → ∃ j, pick u ws i l = i + j ∧ ∃ h : j < ws.length, zeroW ws[j] = false := by
  induction ws with
  | nil => intro u i l h; obtain ⟨w, hw, _⟩ := h; cases hw
  | cons w ws ih =>
    intro u i l h
    simp only [pick]
    by_cases hz : zeroW w = true
    · rw [if_pos hz]
      have h' : ∃ w ∈ ws, zeroW w = false := by
        obtain ⟨x, hx, hx2⟩ := h
        rcases List.mem_cons.1 hx with rfl | hx
        · rw [hz] at hx2; cases hx2
        · exact ⟨x, hx, hx2⟩
      obtain ⟨j, h1, h2, h3⟩ := ih u (i + 1) l h'
      exact ⟨j + 1, by omega, by simpa using h2, by simpa using h3⟩
    · rw [if_neg hz]
      have hz' : zeroW w = false := by simpa using hz
      by_cases hl : ltO u w = true
      · rw [if_pos hl]; exact ⟨0, rfl, by simp, by simpa using hz'⟩
      · rw [if_neg hl]
        by_cases h' : ∃ w ∈ ws, zeroW w = false
        · obtain ⟨j, h1, h2, h3⟩ := ih (u.bind fun v => double.sub v w) (i + 1) i h'
          exact ⟨j + 1, by omega, by simpa using h2, by simpa using h3⟩
        · have all : ∀ x ∈ ws, zeroW x = true := by
            intro x hx
            cases hc : zeroW x
            · exact absurd ⟨x, hx, hc⟩ h'
            · rfl
          have key : ∀ (l' : List Nat) (v : Option Nat) (p q : Nat), (∀ x ∈ l', zeroW x = true) → pick v l' p q = q := by
            intro l'
            induction l' with
            | nil => intro v p q _; rfl
            | cons y l' ih2 =>
              intro v p q hy
              simp only [pick]
              rw [if_pos (hy y (by simp))]
              exact ih2 v (p + 1) q (fun x hx => hy x (by simp [hx]))
          exact ⟨0, key ws _ _ _ all, by simp, by simpa using hz'⟩

/-- The weights with a zero put in at place k. -/
def ins (ws : Nat → Nat) (k j : Nat) : Nat := if j < k then ws j else if k < j then ws (j - 1) else 0

theorem ins_list (ws : Nat → Nat) (n k : Nat) (hk : k ≤ n) : (List.range (n + 1)).map (ins ws k) = ((List.range n).map ws).take k ++ 0 :: ((List.range n).map ws).drop k := by
  apply List.ext_getElem?
  intro j
  by_cases h1 : j < k
  · rw [List.getElem?_append_left (by simp; omega), List.getElem?_take, if_pos h1]
    rw [List.getElem?_map, List.getElem?_map, List.getElem?_range (by omega), List.getElem?_range (by omega)]
    simp [ins, h1]
  · rw [List.getElem?_append_right (by simp; omega)]
    have hl : (((List.range n).map ws).take k).length = k := by simp; omega
    rw [hl]
    by_cases h2 : j = k
    · subst h2
      rw [List.getElem?_map, List.getElem?_range (by omega)]
      simp [ins]
    · obtain ⟨m, rfl⟩ : ∃ m, j = k + 1 + m := ⟨j - k - 1, by omega⟩
      rw [show k + 1 + m - k = m + 1 from by omega, List.getElem?_cons_succ, List.getElem?_drop, List.getElem?_map, List.getElem?_map]
      by_cases h3 : k + m < n
      · rw [List.getElem?_range (by omega), List.getElem?_range (by omega)]
        simp only [Option.map_some, ins]
        rw [if_neg (by omega), if_pos (by omega), show k + 1 + m - 1 = k + m from by omega]
      · rw [List.getElem?_eq_none (by simp; omega), List.getElem?_eq_none (by simp; omega)]
        rfl

theorem ignores (ws : Nat → Nat) (n k : Nat) (hk : k ≤ n) (u : Option Nat) (h : ∃ j, j < n ∧ zeroW (ws j) = false) :
    pick u ((List.range (n + 1)).map (ins ws k)) 0 0 = shift k (pick u ((List.range n).map ws) 0 0) ∧
    pick u ((List.range n).map ws) 0 0 < n ∧ zeroW (ws (pick u ((List.range n).map ws) 0 0)) = false := by
  have hm : ∃ w ∈ (List.range n).map ws, zeroW w = false := by
    obtain ⟨j, hj, hz⟩ := h
    exact ⟨ws j, List.mem_map.2 ⟨j, List.mem_range.2 hj, rfl⟩, hz⟩
  refine ⟨?_, ?_⟩
  · rw [ins_list ws n k hk]
    have hl : (((List.range n).map ws).take k).length = k := by simp; omega
    have e := pick_insert 0 zero_is (((List.range n).map ws).take k) (((List.range n).map ws).drop k) u 0 0
    rw [hl, Nat.zero_add, List.take_append_drop] at e
    rw [← e]
    apply pick_last
    obtain ⟨w, hw, hz⟩ := hm
    rw [← List.take_append_drop k ((List.range n).map ws)] at hw
    rcases List.mem_append.1 hw with h | h
    · exact ⟨w, List.mem_append.2 (Or.inl h), hz⟩
    · exact ⟨w, List.mem_append.2 (Or.inr (List.mem_cons_of_mem _ h)), hz⟩
  · obtain ⟨j, h1, h2, h3⟩ := pick_is _ u 0 0 hm
    rw [Nat.zero_add] at h1
    rw [h1]
    have h2' : j < n := by simpa using h2
    exact ⟨h2', by simpa using h3⟩

/-! ### The sums -/
/-- The sum of the first k weights, in the law's own order. -/
def sumTo (ws : Nat → Nat) : Nat → Nat
  | 0 => 0
  | k + 1 => (double.add (sumTo ws k) (ws k)).getD 0

theorem add_inf_left (t : Bool) (b : Nat) (hb : b ≤ INF) (h : t = true → b = 0) : double.add (W false INF) (W t b) = some (W false INF) := by
  unfold Format.add
  rw [read_inf]
  by_cases e : b = INF
  · subst e
    have ht : t = false := by
      cases t
      · rfl
      · have := h rfl; revert this; decide
    subst ht
    rw [read_inf]
    simp [Datum.sum, Format.write, word_eq, infRung_eq]
  · obtain ⟨n, j, h2, hj, hn⟩ := read_fin t b (by omega)
    rw [h2]
    simp [Datum.sum, Format.write, word_eq, infRung_eq]

theorem add_inf_right (a : Nat) (ha : a < INF) : double.add (W false a) (W false INF) = some (W false INF) := by
  unfold Format.add
  rw [read_inf]
  obtain ⟨n, j, h2, hj, hn⟩ := read_fin false a ha
  rw [h2]
  simp [Datum.sum, Format.write, word_eq, infRung_eq]

theorem add_pos (a x b : Nat) (ha : a ≤ INF) (hx : NN x b) : ∃ c, c ≤ INF ∧ double.add (W false a) x = some (W false c) := by
  obtain ⟨hb, t, rfl, ht⟩ := hx
  by_cases h1 : a = INF
  · subst h1; exact ⟨INF, Nat.le_refl _, add_inf_left t b hb ht⟩
  · by_cases h2 : b = INF
    · subst h2
      have ht' : t = false := by
        cases t
        · rfl
        · have := ht rfl; revert this; decide
      subst ht'
      exact ⟨INF, Nat.le_refl _, add_inf_right a (by omega)⟩
    · refine ⟨min (rn (tot false a t b).natAbs) INF, Nat.min_le_right _ _, ?_⟩
      rw [add_fin false t a b (by omega) (by omega)]
      have e2 : sv t (V b) = (V b : Int) := sv_NN (fun h => by rw [ht h, V_zero])
      have hs : sg false t (tot false a t b) = false := by
        unfold sg tot
        rw [e2]
        split
        · rfl
        · simp [sv]; omega
      rw [hs]

theorem add_zero_right (a : Nat) (ha : a ≤ INF) : double.add (W false a) 0 = some (W false a) := by
  rw [← W_zero]
  by_cases h1 : a = INF
  · subst h1; exact add_inf_left false 0 (by decide) (fun h => by cases h)
  · rw [add_fin false false a 0 (by omega) (by decide)]
    have e : tot false a false 0 = (V a : Int) := by unfold tot; rw [V_zero]; simp [sv]
    have hs : sg false false (tot false a false 0) = false := by
      unfold sg; rw [e]; split
      · rfl
      · simp
    rw [hs, e, Int.natAbs_natCast, rn_V, Nat.min_eq_left ha]

theorem sumTo_is (ws : Nat → Nat) (k : Nat) (h : ∀ j, j < k → ∃ r, NN (ws j) r) : ∃ c, c ≤ INF ∧ sumTo ws k = W false c := by
  induction k with
  | zero => exact ⟨0, Nat.zero_le _, rfl⟩
  | succ k ih =>
    obtain ⟨c, hc, e⟩ := ih (fun j hj => h j (by omega))
    obtain ⟨r, hr⟩ := h k (by omega)
    obtain ⟨d, hd, e2⟩ := add_pos c (ws k) r hc hr
    exact ⟨d, hd, by simp only [sumTo]; rw [e, e2]; rfl⟩

theorem sumTo_step (ws : Nat → Nat) (k : Nat) (h : ∀ j, j < k + 1 → ∃ r, NN (ws j) r) : double.add (sumTo ws k) (ws k) = some (sumTo ws (k + 1)) := by
  obtain ⟨c, hc, e⟩ := sumTo_is ws k (fun j hj => h j (by omega))
  obtain ⟨r, hr⟩ := h k (by omega)
  obtain ⟨d, hd, e2⟩ := add_pos c (ws k) r hc hr
  simp only [sumTo]; rw [e, e2]; rfl

theorem ins_NN (ws : Nat → Nat) (n k : Nat) (hk : k ≤ n) (h : ∀ j, j < n → ∃ r, NN (ws j) r) : ∀ j, j < n + 1 → ∃ r, NN (ins ws k j) r := by
  intro j hj
  unfold ins
  split
  · exact h j (by omega)
  · split
    · exact h (j - 1) (by omega)
    · exact ⟨0, NN_mk 0 (Nat.zero_le _)⟩

theorem sum_ins (ws : Nat → Nat) (n k : Nat) (hk : k ≤ n) (h : ∀ j, j < n → ∃ r, NN (ws j) r) : sumTo (ins ws k) (n + 1) = sumTo ws n := by
  have low : ∀ m, m ≤ k → sumTo (ins ws k) m = sumTo ws m := by
    intro m
    induction m with
    | zero => intro _; rfl
    | succ m ih =>
      intro hm
      simp only [sumTo]
      rw [ih (by omega), show ins ws k m = ws m from if_pos (by omega)]
  have high : ∀ m, k + m ≤ n → sumTo (ins ws k) (k + m + 1) = sumTo ws (k + m) := by
    intro m
    induction m with
    | zero =>
      intro hm
      obtain ⟨c, hc, e⟩ := sumTo_is ws k (fun j hj => h j (by omega))
      show (double.add (sumTo (ins ws k) k) (ins ws k k)).getD 0 = sumTo ws k
      rw [low k (Nat.le_refl _), show ins ws k k = 0 from by simp [ins], e, add_zero_right c hc]
      rfl
    | succ m ih =>
      intro hm
      have e1 := ih (by omega)
      show (double.add (sumTo (ins ws k) (k + m + 1)) (ins ws k (k + m + 1))).getD 0 = (double.add (sumTo ws (k + m)) (ws (k + m))).getD 0
      rw [e1, show ins ws k (k + m + 1) = ws (k + m) from by
        unfold ins; rw [if_neg (by omega), if_pos (by omega), show k + m + 1 - 1 = k + m from by omega]]
  have := high (n - k) (by omega)
  rwa [show k + (n - k) = n from by omega] at this

/-- What the generator's 53 bits make is a float. -/
theorem div_some (k : Int) (h0 : 0 ≤ k) (h : k < 9007199254740992) : ∃ F, double.div (floatOfInt .f64 k) 4845873199050653696 = some F := by
  have e : (4845873199050653696 : Nat) = W false (1076 * B) := by decide
  rw [e, ofInt_fin k (by omega)]
  obtain ⟨m, i, h1, _, _⟩ := read_fin (decide (k < 0)) (rn (k.natAbs * U)) (int_lt k (by omega))
  obtain ⟨n, j, h2, _, hn⟩ := read_fin false (1076 * B) (by decide)
  have hn0 : n ≠ 0 := by
    intro h
    rw [h, Nat.zero_mul] at hn
    have := V_lt (show 0 < 1076 * B from by decide)
    rw [V_zero] at this; omega
  unfold Format.div
  rw [h1, h2]
  simp only [Datum.quotient, if_neg hn0, Option.map_some]
  exact ⟨_, rfl⟩

end Go.Proofs.Qxb6618562a.Fl
