/- The pick, as a plain function; a float that may be a NaN, whose bits the language leaves open, is an option. -/
import Derived.Test.Qxb6618562aFloatLaw
import Derived.Deep.Draws
namespace Go.Proofs.Qxb6618562a.Fl
open Ieee

/-- A word that is a NaN. -/
def NaNw (x : Nat) : Prop := ∃ s r, x = W s r ∧ INF < r ∧ r < 9223372036854775808

theorem read_nan {x : Nat} (h : NaNw x) : ∃ s f, double.read x = .nan s f := by
  obtain ⟨s, r, rfl, h1, h2⟩ := h
  have hB : B < INF := by decide
  refine ⟨s, r - INF, ?_⟩
  rw [read_rung s r h2, if_neg (by omega), if_neg (by omega), if_neg (by omega)]

theorem order_nan {x : Nat} (h : NaNw x) (y : Nat) : double.order x y = none := by
  obtain ⟨s, f, e⟩ := read_nan h
  unfold Format.order
  rw [e]; rfl

theorem sub_nan {x : Nat} (h : NaNw x) (y : Nat) : double.sub x y = none := by
  obtain ⟨s, f, e⟩ := read_nan h
  unfold Format.sub
  rw [e]; rfl

theorem cut_nan (x y t : Nat) : NaNw (Question.cut (.nanBits .f64 x y) t) := by
  have h1 : t / 2 % (2 ^ 52 - 1) < 2 ^ 52 - 1 := Nat.mod_lt _ (by decide)
  have e : Question.cut (.nanBits .f64 x y) t = (t % 2) * 2 ^ 63 + 0x7ff0000000000000 + 1 + (t / 2) % (2 ^ 52 - 1) := rfl
  rw [e]
  have hI : INF = 0x7ff0000000000000 := by decide
  have h63 : (2 : Nat) ^ 63 = 9223372036854775808 := by decide
  have h52 : (2 : Nat) ^ 52 = 4503599627370496 := by decide
  rw [h52] at h1
  rw [h63, h52]
  generalize t / 2 % (4503599627370496 - 1) = m at *
  have h2 : t % 2 = 0 ∨ t % 2 = 1 := by omega
  rcases h2 with h | h
  · refine ⟨false, INF + 1 + m, ?_, by omega, by rw [hI]; omega⟩
    show _ = INF + 1 + m
    omega
  · refine ⟨true, INF + 1 + m, ?_, by omega, by rw [hI]; omega⟩
    show _ = 9223372036854775808 + (INF + 1 + m)
    omega

/-- What a float variable holds: that word, or some NaN. -/
def Rel (x : Nat) : Option Nat → Prop
  | none => NaNw x
  | some v => x = v

theorem run_arith (P : Program) (op : BinOp) (hop : op = .sub ∨ op = .mul) (x y : Nat) : ∃ (z : World → Nat) (m : Nat),
    (∀ w, (binOp op 22 (.float .f64 x) (.float .f64 y)).run P w = .ok (.float .f64 (z w)) (w.drewN m)) ∧ ∀ w, Rel (z w) (floatBits op .f64 x y) := by
  cases h : floatBits op .f64 x y with
  | some r => exact ⟨fun _ => r, 0, fun w => run_float_arith w op 22 .f64 x y r h, fun _ => rfl⟩
  | none =>
    refine ⟨fun w => Question.cut (.nanBits .f64 x y) (w.tape w.drawn (.nanBits .f64 x y)), 1, fun w => ?_, fun w => cut_nan _ _ _⟩
    unfold floatBits at h
    rcases hop with rfl | rfl
    · simp only at h
      simp [binOp, Op.floatArith, h, Question.forced, World.drew_is_drewN]
    · simp only at h
      simp [binOp, Op.floatArith, h, Question.forced, World.drew_is_drewN]

theorem sub_any (P : Program) (x y : Nat) (uo : Option Nat) (hx : Rel x uo) : ∃ (z : World → Nat) (m : Nat),
    (∀ w, (binOp .sub 22 (.float .f64 x) (.float .f64 y)).run P w = .ok (.float .f64 (z w)) (w.drewN m)) ∧ ∀ w, Rel (z w) (uo.bind fun v => double.sub v y) := by
  obtain ⟨z, m, h1, h2⟩ := run_arith P .sub (Or.inl rfl) x y
  refine ⟨z, m, h1, fun w => ?_⟩
  have h := h2 w
  cases uo with
  | some v => cases hx; exact h
  | none =>
    have e : floatBits .sub .f64 x y = none := sub_nan hx y
    rw [e] at h
    exact h

/-- 'u < w' -/
def ltO : Option Nat → Nat → Bool
  | none, _ => false
  | some v, w => double.order v w == some .lt

theorem lt_rel {x : Nat} {uo : Option Nat} (h : Rel x uo) (y : Nat) : (FloatKind.f64.format.order x y == some .lt) = ltO uo y := by
  cases uo with
  | some v => cases h; rfl
  | none =>
    have e : FloatKind.f64.format.order x y = none := order_nan h y
    rw [e]; rfl

/-- A weight that is a zero. -/
def zeroW (w : Nat) : Bool := double.order w 0 == some .eq

/-- The pick: the index of the type, of what is left of the draw, the weights from index i on, and the last index met. -/
def pick : Option Nat → List Nat → Nat → Nat → Nat
  | _, [], _, last => last
  | u, w :: ws, i, last => if zeroW w = true then pick u ws (i + 1) last else if ltO u w = true then i else pick (u.bind fun v => double.sub v w) ws (i + 1) i

end Go.Proofs.Qxb6618562a.Fl
