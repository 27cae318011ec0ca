import Derived.Test.Qxb6618614aBytes
namespace Go.Proofs.Qxb6618614a.Vals
open Go.ChangeShapes Go.WideShapes Go.RowKit
set_option linter.unusedVariables false

theorem K_split (fld : ByteArray) (g : Nat → ByteArray × ByteArray) (k : Nat) : ∀ m, K fld g (k + m) = K fld g k ++ K fld (fun i => g (k + i)) m
  | 0 => by simp [K]
  | m + 1 => by
    show K fld g ((k + m) + 1) = _
    simp only [K]
    rw [K_split fld g k m, List.append_assoc]

/-- THE PLAIN LAW: cutting the header at k cuts the values. -/
theorem vals_cut (pn : Int) (fld : ByteArray) (eo : Bool) (f f' : Nat → ByteArray × ByteArray) (ne : Nat) (g : Nat → ByteArray × ByteArray) (nh k : Nat) (rc rs mt : List ByteArray) (hk : k ≤ nh) :
    vals pn fld eo f ne g nh rc rs mt = vals pn fld eo f ne g k rc rs mt ++ vals pn fld eo f' 0 (fun i => g (k + i)) (nh - k) [] [] [] := by
  unfold vals
  by_cases h1 : (fld.toList == [36, 38]) = true
  · rw [if_pos h1, if_pos h1, if_pos h1, List.append_nil]
  rw [if_neg h1, if_neg h1, if_neg h1]
  by_cases h2 : (fld.toList == [99, 104, 97, 110, 110, 101, 108, 45, 116, 111]) = true
  · rw [if_pos h2, if_pos h2, if_pos h2, List.append_nil]
  rw [if_neg h2, if_neg h2, if_neg h2]
  by_cases h3 : 0 ≤ pn
  · rw [if_pos h3, if_pos h3, if_pos h3, if_neg (show ¬ pn < (([] : List ByteArray).length : Int) by simp; omega), List.append_nil]
  rw [if_neg h3, if_neg h3, if_neg h3]
  have hs := K_split fld g k (nh - k)
  rw [show k + (nh - k) = nh by omega] at hs
  cases eo
  · rw [hs]
    simp [K]
  · simp [K]

theorem K_any (g : Nat → ByteArray × ByteArray) : ∀ q, (K ⟨#[36, 97, 110, 121]⟩ g q).length = q
  | 0 => by simp [K]
  | q + 1 => by
    have h : ((⟨#[36, 97, 110, 121]⟩ : ByteArray).toList == [36, 97, 110, 121]) = true := by decide +kernel
    simp only [K, List.length_append, K_any g q, h, Bool.true_or, if_true, List.length_singleton]

/-- THE PLAIN LAW: $any sees every value. -/
theorem vals_any (eo : Bool) (f : Nat → ByteArray × ByteArray) (ne : Nat) (g : Nat → ByteArray × ByteArray) (nh : Nat) (rc rs mt : List ByteArray) :
    (vals (-1) ⟨#[36, 97, 110, 121]⟩ eo f ne g nh rc rs mt).length = ne + rc.length + (if eo = true then 0 else nh) := by
  have h1 : ((⟨#[36, 97, 110, 121]⟩ : ByteArray).toList == [36, 38]) = false := by decide +kernel
  have h2 : ((⟨#[36, 97, 110, 121]⟩ : ByteArray).toList == [99, 104, 97, 110, 110, 101, 108, 45, 116, 111]) = false := by decide +kernel
  have h3 : ((⟨#[36, 97, 110, 121]⟩ : ByteArray).toList == [36, 97, 110, 121]) = true := by decide +kernel
  unfold vals
  rw [if_neg (by rw [h1]; decide), if_neg (by rw [h2]; decide), if_neg (by decide), if_pos h3, List.length_append, List.length_append, K_any]
  cases eo
  · simp [K_any]
  · simp

theorem vals_le (pn : Int) (fld : ByteArray) (eo : Bool) (f : Nat → ByteArray × ByteArray) (ne : Nat) (g : Nat → ByteArray × ByteArray) (nh : Nat) (rc rs mt : List ByteArray) (h1 : ne ≤ 1048576) (h2 : nh ≤ 1048576)
    (h3 : rc.length ≤ 1048576) (h4 : rs.length ≤ 1048576) : (vals pn fld eo f ne g nh rc rs mt).length ≤ 4194304 := by
  have a1 := K_le fld f ne
  have a2 := K_le fld g nh
  unfold vals
  split
  · omega
  split
  · omega
  split
  · split <;> simp
  rw [List.length_append, List.length_append]
  split <;> split <;> simp <;> omega

theorem Flds.cutLow {w : World} {a : Option Addr} {n c k : Nat} {g : Nat → ByteArray × ByteArray} (h : Flds w a n c g) (hk : k ≤ n) : Flds w a k c g := by
  obtain ⟨h1, h2, h3⟩ := h
  refine ⟨by omega, h2, ?_⟩
  rcases h3 with ⟨rfl, h⟩ | ⟨b, o, rfl, hb, hc⟩
  · exact .inl ⟨by omega, h⟩
  · exact .inr ⟨b, o, rfl, hb, fun i hi => hc i (by omega)⟩

theorem Flds.cutHigh {w : World} {a : Option Addr} {n c k : Nat} {g : Nat → ByteArray × ByteArray} (h : Flds w a n c g) (hk : k ≤ n) (hc : ¬ c = k) :
    Flds w (a.map (fun x => x.add (k * 2))) (n - k) (c - k) (fun i => g (k + i)) := by
  obtain ⟨h1, h2, h3⟩ := h
  refine ⟨by omega, by omega, ?_⟩
  rcases h3 with ⟨rfl, h⟩ | ⟨b, o, rfl, hb, hc⟩
  · refine .inl ⟨by omega, fun h4 => ?_⟩
    have := h (by simpa using h4)
    omega
  · refine .inr ⟨b, o + k * 2, ?_, hb, fun i hi => ?_⟩
    · show some (Addr.add _ _) = _
      rw [Addr.add_lit]
    · have := hc (k + i) (by omega)
      rw [show o + k * 2 + i * 2 = o + (k + i) * 2 by omega]
      exact this

theorem flds_zero (w : World) (a : Option Addr) (g : Nat → ByteArray × ByteArray) : Flds w a 0 0 g := ⟨Nat.le_refl _, Nat.zero_le _, .inl ⟨rfl, fun _ => rfl⟩⟩
theorem flds_nil (w : World) (g : Nat → ByteArray × ByteArray) : Flds w none 0 0 g := ⟨Nat.le_refl _, Nat.zero_le _, .inl ⟨rfl, fun _ => rfl⟩⟩
theorem strs_nil (w : World) : Strs w none 0 0 [] := ⟨rfl, Nat.le_refl _, Nat.zero_le _, .inl ⟨rfl, fun _ => rfl⟩⟩

theorem same_eq (a b : Option Addr) (n1 n2 c1 c2 : Nat) (l1 l2 : List ByteArray) (w : World) (ha : Strs w a n1 c1 l1) (hb : Strs w b n2 c2 l2) (h : l1 = l2) :
    Calls Try.prog 10 #[.slice a n1 c1, .slice b n2 c2] w fun e w' => e = .returned (.bool true) ∧ Below w.heap.size w w' := by
  subst h
  obtain rfl : n1 = n2 := ha.1.symm.trans hb.1
  exact same_any a b n1 c1 c2 l1 w ha hb
end Go.Proofs.Qxb6618614a.Vals
