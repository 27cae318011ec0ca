/- Contracts of the functions on the two roads through groupWaitingSQL. -/
import Derived.Test.Qxb6618535aRows
import Derived.WalkKit
import Derived.ProofKit
import Derived.ShutString
import Derived.WalkSpells
import Derived.WalkLawsBesides
import Derived.BigQuiet
import Derived.Deep.QuietTactic
namespace Go.Proofs.Qxb6618535a.Grp
open Go.ChangeShapes Go.WideShapes Go.ChangeAt Go.RowKit
set_option linter.unusedVariables false

/-! ### The longest common head and tail: the place of the first difference is handed in. -/
set_option maxHeartbeats 400000 in
theorem lcp (x y : ByteArray) (a : Nat) (w : World) (hx : x.size ≤ 1000000) (hy : y.size ≤ 1000000) (h1 : a < x.size) (h2 : a < y.size)
    (heq : Hid (∀ k (h : k < a), x[k] = y[k])) (hne : Hid (x[a] ≠ y[a])) (hle : x.size ≤ y.size) :
    Calls Try.prog 11 #[.string x, .string y] w fun e w' => e = .returned (.int .i64 a) ∧ ∃ n, w' = w.drewN n := by
  have hdl : decide (y.size < x.size) = false := by simp; omega
  go_enter Try.func11, Try.ntmps11
  go_wp2
  go_loopw [6] (fun i w' => ∃ k : Nat, k ≤ a ∧ i = .int .i64 k ∧ ∃ n, w' = w.drewN n) (fun i _ => a - (intOf i).toNat)
  case atStart => exact ⟨0, Nat.zero_le _, rfl, 0, rfl⟩
  case round =>
    obtain ⟨k, hk, rfl, n, rfl⟩ := hrel
    have hd2 : k < x.size := by omega
    have hd : decide (k < x.size) = true := by simp; omega
    have hd3 : k < y.size := by omega
    by_cases hlt : k < a
    · have hxy : ((x[k].toNat : Int) == (y[k].toNat : Int)) = true := by simp [heq.out k hlt]
      go_wp2
      go_quiet (fail)
      go_wp2
      go_roundw
      case rel => exact ⟨k + 1, by omega, by go_num, n + nq, by first | rfl | exact World.drewN_drewN _ _ _⟩
      case measure => simp [intOf]; omega
    · have hka : k = a := by omega
      subst hka
      have hxy : ((x[k].toNat : Int) == (y[k].toNat : Int)) = false := by
        have h := hne.out
        rw [beq_eq_false_iff_ne]
        intro hc
        exact h (UInt8.toNat_inj.1 (by exact_mod_cast hc))
      go_wp2
      go_quiet (fail)
      go_wp2
      go_ret
      exact ⟨rfl, n + nq, World.drewN_drewN _ _ _⟩

set_option maxHeartbeats 400000 in
theorem lcs (x y : ByteArray) (a : Nat) (w : World) (hx : x.size ≤ 1000000) (hy : y.size ≤ 1000000) (h1 : a < x.size) (h2 : a < y.size)
    (heq : Hid (∀ k (h : k < a), x[x.size - 1 - k] = y[y.size - 1 - k])) (hne : Hid (x[x.size - 1 - a] ≠ y[y.size - 1 - a])) (hle : x.size ≤ y.size) :
    Calls Try.prog 12 #[.string x, .string y] w fun e w' => e = .returned (.int .i64 a) ∧ ∃ n, w' = w.drewN n := by
  have hdl : decide (y.size < x.size) = false := by simp; omega
  go_enter Try.func12, Try.ntmps12
  go_wp2
  go_loopw [6] (fun i w' => ∃ k : Nat, k ≤ a ∧ i = .int .i64 k ∧ ∃ n, w' = w.drewN n) (fun i _ => a - (intOf i).toNat)
  case atStart => exact ⟨0, Nat.zero_le _, rfl, 0, rfl⟩
  case round =>
    obtain ⟨k, hk, rfl, n, rfl⟩ := hrel
    have hd2 : k < x.size := by omega
    have hd : decide (k < x.size) = true := by simp; omega
    have hd3 : k < y.size := by omega
    obtain ⟨px, hpx⟩ : ∃ p, p = x.size - 1 - k := ⟨_, rfl⟩
    obtain ⟨py, hpy⟩ : ∃ p, p = y.size - 1 - k := ⟨_, rfl⟩
    have lx : px < x.size := by omega
    have ly : py < y.size := by omega
    have hwx : IntKind.i64.wrap (IntKind.i64.wrap ((x.size : Int) - 1) - (k : Int)) = (px : Int) := by
      rw [IntWalk.i64_left, IntWalk.i64_left]; simp only [wrap64]; omega
    have hwy : IntKind.i64.wrap (IntKind.i64.wrap ((y.size : Int) - 1) - (k : Int)) = (py : Int) := by
      rw [IntWalk.i64_left, IntWalk.i64_left]; simp only [wrap64]; omega
    by_cases hlt : k < a
    · have hxy : ((x[px].toNat : Int) == (y[py].toNat : Int)) = true := by subst hpx hpy; simp [heq.out k hlt]
      clear hpx hpy
      go_wp2
      go_quiet (fail)
      go_wp2
      go_roundw
      case rel => exact ⟨k + 1, by omega, by go_num, n + nq, by first | rfl | exact World.drewN_drewN _ _ _⟩
      case measure => simp [intOf]; omega
    · have hka : k = a := by omega
      subst hka
      have hxy : ((x[px].toNat : Int) == (y[py].toNat : Int)) = false := by
        subst hpx hpy
        have h := hne.out
        rw [beq_eq_false_iff_ne]
        intro hc
        exact h (UInt8.toNat_inj.1 (by exact_mod_cast hc))
      clear hpx hpy
      go_wp2
      go_quiet (fail)
      go_wp2
      go_ret
      exact ⟨rfl, n + nq, World.drewN_drewN _ _ _⟩

/-! ### The statement's text -/
def dflt : List UInt8 := [100, 101, 102, 97, 117, 108, 116]
def tail : ByteArray := ⟨#[32, 65, 78, 68, 32, 103, 114, 111, 117, 112, 95, 107, 101, 121, 32, 61, 32, 36, 49, 32, 65, 78, 68, 32, 105, 100, 32, 62, 61, 32, 36, 50, 32, 65, 78, 68, 32, 105, 100, 32, 60, 61, 32, 36, 51, 10, 79, 82, 68, 69, 82, 32, 66, 89, 32, 105, 100, 10, 76, 73, 77, 73, 84, 32, 40, 83, 69, 76, 69, 67, 84, 32, 36, 52, 58, 58, 98, 105, 103, 105, 110, 116, 41]⟩
def pre (t s : ByteArray) : ByteArray := ⟨#[10, 83, 69, 76, 69, 67, 84, 32, 105, 100, 32, 70, 82, 79, 77, 32]⟩ ++ t ++ ⟨#[10, 87, 72, 69, 82, 69, 32, 115, 116, 97, 116, 117, 115, 32, 61, 32, 39]⟩ ++ s ++ ⟨#[39, 32, 65, 78, 68, 32]⟩
def sqlN (t s : ByteArray) : ByteArray := pre t s ++ (⟨#[113, 117, 101, 117, 101]⟩ ++ ⟨#[32, 61, 32]⟩ ++ ⟨#[36, 53]⟩) ++ tail
def sqlD (t s : ByteArray) : ByteArray := pre t s ++ (⟨#[113, 117, 101, 117, 101]⟩ ++ ⟨#[32, 73, 83, 32, 78, 85, 76, 76]⟩) ++ tail

/-! ### The contracts -/
theorem grown_trans {a b c : World} (h1 : Grown a b) (h2 : Grown b c) : Grown a c :=
  ⟨World.keptBut_trans h1.1 h2.1, fun x => (h2.2.1 x).trans (h1.2.1 x), Nat.le_trans h1.2.2 h2.2.2⟩

theorem grown_drewN {a b : World} (h : Grown a b) (n : Nat) : Grown a (b.drewN n) := h

theorem dflt_is : ((⟨#[100, 101, 102, 97, 117, 108, 116]⟩ : ByteArray).toList == dflt) = true := by
  rw [ByteArray.toList_eq]; decide

theorem newLine (q : ByteArray) (w : World) :
    Calls Try.prog 10 #[.string q] w fun e w' => ∃ b, e = .returned (.pointer (some ⟨b, 0, none⟩)) ∧ w'.cell? ⟨b, 0, none⟩ = some (.string q) ∧ Hid (Grown w w' ∧ ∀ a v, w.cell? a = some v → w'.cell? a = some v) := by
  go_enter Try.func10, Try.ntmps10
  go_wp2
  go_ret
  refine ⟨_, rfl, by simp, ⟨(Grown.refl _).alloc _ _, fun a v h => ?_⟩⟩
  exact Lib.cell?_alloc_some _ h

theorem named_is (q : ByteArray) (b : Nat) (w : World) (hc : w.cell? ⟨b, 0, none⟩ = some (.string q)) :
    Calls Try.prog 20 #[.pointer (some ⟨b, 0, none⟩)] w fun e w' => e = .returned (.bool (!(q.toList == dflt))) ∧ w' = w := by
  go_enter Try.func20, Try.ntmps20
  go_wp2
  go_ret
  exact ⟨rfl, rfl⟩

theorem sql_named (q t s : ByteArray) (b : Nat) (w : World) (ht : t.size ≤ 65536) (hs : s.size ≤ 65536) (hc : w.cell? ⟨b, 0, none⟩ = some (.string q)) (hq : (q.toList == dflt) = false) :
    Calls Try.prog 9 #[.pointer (some ⟨b, 0, none⟩), .string t, .string s] w fun e w' => e = .returned (.string (sqlN t s)) ∧ w' = w := by
  go_enter Try.func9, Try.ntmps9
  go_wp2_with (first | (go_at_call 20; refine (named_is _ _ _ hc).mono ?_; rintro e w' ⟨rfl, rfl⟩) | go_in)
  go_ret
  exact ⟨rfl, rfl⟩

theorem sql_default (q t s : ByteArray) (b : Nat) (w : World) (ht : t.size ≤ 65536) (hs : s.size ≤ 65536) (hc : w.cell? ⟨b, 0, none⟩ = some (.string q)) (hq : (q.toList == dflt) = true) :
    Calls Try.prog 9 #[.pointer (some ⟨b, 0, none⟩), .string t, .string s] w fun e w' => e = .returned (.string (sqlD t s)) ∧ w' = w := by
  go_enter Try.func9, Try.ntmps9
  go_wp2_with (first | (go_at_call 20; refine (named_is _ _ _ hc).mono ?_; rintro e w' ⟨rfl, rfl⟩) | go_in)
  go_ret
  exact ⟨rfl, rfl⟩

theorem only_named (q t : ByteArray) (b : Nat) (w : World) (hc : w.cell? ⟨b, 0, none⟩ = some (.string q)) (hq : (q.toList == dflt) = false) :
    Calls Try.prog 15 #[.pointer (some ⟨b, 0, none⟩), .string t] w fun e w' => e = .returned (.string t) ∧ w' = w := by
  go_enter Try.func15, Try.ntmps15
  go_wp2_with (first | (go_at_call 20; refine (named_is _ _ _ hc).mono ?_; rintro e w' ⟨rfl, rfl⟩) | go_in)
  go_ret
  exact ⟨rfl, rfl⟩

theorem only_default (q t : ByteArray) (b : Nat) (w : World) (hc : w.cell? ⟨b, 0, none⟩ = some (.string q)) (hq : (q.toList == dflt) = true) :
    Calls Try.prog 15 #[.pointer (some ⟨b, 0, none⟩), .string t] w fun e w' => e = .returned (.string ⟨#[]⟩) ∧ w' = w := by
  go_enter Try.func15, Try.ntmps15
  go_wp2_with (first | (go_at_call 20; refine (named_is _ _ _ hc).mono ?_; rintro e w' ⟨rfl, rfl⟩) | go_in)
  go_ret
  exact ⟨rfl, rfl⟩
end Go.Proofs.Qxb6618535a.Grp
