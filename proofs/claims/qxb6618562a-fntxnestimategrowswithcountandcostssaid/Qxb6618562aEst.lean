/- Contracts of the functions on the roads of the two estimate laws. -/
import Derived.Test.Qxb6618562aRows
import Derived.WalkKit
import Derived.ProofKit
import Derived.WalkSpells
import Derived.WalkLawsBesides
import Derived.BigQuiet
import Derived.Deep.QuietTactic
import Derived.Test.Qxb6618562aFloatLaw
namespace Go.Proofs.Qxb6618562a.Est
open Go.ChangeShapes Go.WideShapes Go.ChangeAt Go.RowKit
theorem newTxn (x y : Nat) (w : World) :
    Calls Try.prog 7 #[.float .f64 x, .float .f64 y] w fun e w' => ∃ b, e = .returned (.pointer (some ⟨b, 0, none⟩)) ∧ w'.cell? ⟨b, 6, none⟩ = some (.float .f64 x) ∧ w'.cell? ⟨b, 7, none⟩ = some (.float .f64 y) ∧ Hid (Grown w w' ∧ ∀ a v, w.cell? a = some v → w'.cell? a = some v) := by
  go_enter Try.func7, Try.ntmps7
  go_wp2
  go_ret
  refine ⟨_, rfl, by simp, by simp, ⟨(Grown.refl _).alloc _ _, fun a v h => ?_⟩⟩
  exact Lib.cell?_alloc_some _ h

theorem larger (x y : Nat) (w : World) :
    Calls Try.prog 9 #[.float .f64 x, .float .f64 y] w fun e w' => e = .returned (.float .f64 (Fl.lg x y)) ∧ w' = w := by
  cases h : (FloatKind.f64.format.order y x == some Ordering.gt)
  · have hl : Fl.lg x y = x := if_neg (by rw [show Ieee.double.order y x = FloatKind.f64.format.order y x from rfl, h]; decide)
    rw [hl]
    go_enter Try.func9, Try.ntmps9
    go_wp2
    go_ret
    exact ⟨rfl, rfl⟩
  · have hl : Fl.lg x y = y := if_pos h
    rw [hl]
    go_enter Try.func9, Try.ntmps9
    go_wp2
    go_ret
    exact ⟨rfl, rfl⟩

theorem est (x y S e b : Nat) (n : Int) (w : World) (h6 : w.cell? ⟨b, 6, none⟩ = some (.float .f64 x)) (h7 : w.cell? ⟨b, 7, none⟩ = some (.float .f64 y))
    (hS : Ieee.double.add x y = some S) (he : Ieee.double.mul (floatOfInt .f64 n) S = some e) :
    Calls Try.prog 8 #[.pointer (some ⟨b, 0, none⟩), .int .i64 n] w fun r w' => r = .returned (.float .f64 e) ∧ ∃ k, w' = w.drewN k := by
  have ra := fun w => run_float_arith (P := Try.prog) w .add 22 .f64 x y S hS
  have rm := fun w => run_float_arith (P := Try.prog) w .mul 22 .f64 (floatOfInt .f64 n) S e he
  clear hS he
  go_enter Try.func8, Try.ntmps8
  go_wp2
  go_quiet (fail)
  go_wp2
  go_ret
  exact ⟨rfl, _, rfl⟩
end Go.Proofs.Qxb6618562a.Est
