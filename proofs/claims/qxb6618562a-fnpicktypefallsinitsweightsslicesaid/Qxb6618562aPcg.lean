/- The generator of math/rand/v2 on the road: what PCG hands out is a function of its state; only its own block is written. -/
import Derived.Test.Qxb6618562aRows
import Derived.WalkKit
import Derived.ProofKit
import Derived.WalkSpells
import Derived.WalkLawsBesides
import Derived.BigQuiet
import Derived.Deep.QuietTactic
import Derived.Laws.Externs
import Derived.Laws.FloatArith
namespace Go.Proofs.Qxb6618562a.Pcg
set_option linter.unusedVariables false
open Go.ChangeShapes Go.WideShapes Go.ChangeAt Go.RowKit
/-- A word of 64 bits. -/
def Word (x : Int) : Prop := 0 ≤ x ∧ x < 18446744073709551616
def sm (x y c : Int) : Int := (x + y + c) % 18446744073709551616
def cr (x y c : Int) : Int := (x + y + c) / 18446744073709551616
theorem sm_word (x y c : Int) : Word (sm x y c) := by unfold Word sm; omega
theorem cr_bit {x y c : Int} (hx : Word x) (hy : Word y) (h0 : 0 ≤ c) (h1 : c ≤ 1) : 0 ≤ cr x y c ∧ cr x y c ≤ 1 := by unfold Word at *; unfold cr; omega
theorem wrap_word (x : Int) : Word (IntKind.u64.wrap x) := by
  unfold Word
  have h : IntKind.u64.wrap x = x % 18446744073709551616 := by simp [IntKind.wrap, IntKind.bits, IntKind.signed]
  rw [h]; omega

theorem add64 (x y c : Int) (hx : Word x) (hy : Word y) (h0 : 0 ≤ c) (h1 : c ≤ 1) (w : World) :
    (callFunc 48 #[.int .u64 x, .int .u64 y, .int .u64 c]).run Try.prog w = .ok (.value (.tuple #[.int .u64 (sm x y c), .int .u64 (cr x y c)])) w := by
  rw [run_callFunc_extern Try.func48 (by kernel_rfl) (by kernel_rfl) (by kernel_rfl) (e := add64Entry) (by kernel_rfl), run_add64 x y c hx.1 hy.1 h0 h1]
  rfl

def mhi (x y : Int) : Int := IntKind.u64.wrap
                            (IntKind.u64.wrap
                                (IntKind.u64.wrap (x / 4294967296 * (y / 4294967296)) +
                                  IntKind.u64.wrap
                                      (IntKind.u64.wrap (x / 4294967296 * bits BinOp.and IntKind.u64 y 4294967295) +
                                        IntKind.u64.wrap
                                            (bits BinOp.and IntKind.u64 x 4294967295 *
                                              bits BinOp.and IntKind.u64 y 4294967295) /
                                          4294967296) /
                                    4294967296) +
                              IntKind.u64.wrap
                                  (bits BinOp.and IntKind.u64
                                      (IntKind.u64.wrap
                                        (IntKind.u64.wrap (x / 4294967296 * bits BinOp.and IntKind.u64 y 4294967295) +
                                          IntKind.u64.wrap
                                              (bits BinOp.and IntKind.u64 x 4294967295 *
                                                bits BinOp.and IntKind.u64 y 4294967295) /
                                            4294967296))
                                      4294967295 +
                                    IntKind.u64.wrap (bits BinOp.and IntKind.u64 x 4294967295 * (y / 4294967296))) /
                                4294967296)
def mlo (x y : Int) : Int := IntKind.u64.wrap (x * y)

theorem mul64 (x y : Int) (w : World) (hx : Word x) (hy : Word y) :
    Calls Try.prog 47 #[.int .u64 x, .int .u64 y] w fun e w' => e = .returned (.tuple #[.int .u64 (mhi x y), .int .u64 (mlo x y)]) ∧ w' = w := by
  have hx0 := hx.1
  have hy0 := hy.1
  clear hx hy
  go_enter Try.func47, Try.ntmps47
  go_wp2
  go_ret2
  exact ⟨rfl, rfl⟩

/-- Two worlds that differ in the one block alone. -/
structure Only (pb : Nat) (w w' : World) : Prop where
  os : w'.os = w.os
  tape : w'.tape = w.tape
  output : w'.output = w.output
  size : w'.heap.size = w.heap.size
  block : ∀ k, k ≠ pb → w'.heap[k]? = w.heap[k]?

theorem Only.refl (pb : Nat) (w : World) : Only pb w w := ⟨rfl, rfl, rfl, rfl, fun _ _ => rfl⟩
theorem Only.trans {pb : Nat} {a b c : World} (h : Only pb a b) (k : Only pb b c) : Only pb a c :=
  ⟨k.os.trans h.os, k.tape.trans h.tape, k.output.trans h.output, k.size.trans h.size, fun i hi => (k.block i hi).trans (h.block i hi)⟩
theorem Only.drewN {pb : Nat} {a w : World} (h : Only pb a w) (n : Nat) : Only pb a (w.drewN n) := ⟨h.os, h.tape, h.output, h.size, h.block⟩
theorem Only.setCell {pb : Nat} {a w : World} (h : Only pb a w) (o : Nat) (u : Value) : Only pb a (w.setCell ⟨pb, o, none⟩ u) :=
  h.trans ⟨rfl, rfl, rfl, by simp [World.setCell], fun k hk => Below.heap_setCell _ _ _ _ hk⟩
theorem Only.cell {pb : Nat} {w w' : World} (h : Only pb w w') {p : Addr} (hp : p.block ≠ pb) : w'.cell? p = w.cell? p := World.cell?_of_block (w := w) (h.block p.block hp)
theorem Only.below {pb B : Nat} {w w' : World} (h : Only pb w w') (hB : B ≤ pb) : Below B w w' :=
  ⟨h.os, h.tape, h.output, Nat.le_of_eq h.size.symm, fun k hk => h.block k (by omega)⟩

def n1 (hi lo : Int) : Int := sm (mlo lo 4865540595714422341) 1442695040888963407 0
def n2 (hi lo : Int) : Int := IntKind.u64.wrap (mhi lo 4865540595714422341 + IntKind.u64.wrap (IntKind.u64.wrap (hi * 4865540595714422341) + IntKind.u64.wrap (lo * 2549297995355413924)))
def n3 (hi lo : Int) : Int := sm (n2 hi lo) 6364136223846793005 (cr (mlo lo 4865540595714422341) 1442695040888963407 0)

theorem next (hi lo : Int) (pb : Nat) (w : World) (h1 : Word hi) (h2 : Word lo) (c0 : w.cell? ⟨pb, 0, none⟩ = some (.int .u64 hi)) (c1 : w.cell? ⟨pb, 1, none⟩ = some (.int .u64 lo))
    (f0 : w.frozen? ⟨pb, 0, none⟩ = false) (f1 : w.frozen? ⟨pb, 1, none⟩ = false) :
    Calls Try.prog 46 #[.pointer (some ⟨pb, 0, none⟩)] w fun e w' => e = .returned (.tuple #[.int .u64 (n3 hi lo), .int .u64 (n1 hi lo)]) ∧ Only pb w w' := by
  have k1 : Word 4865540595714422341 := by unfold Word; decide
  have k2 : Word 1442695040888963407 := by unfold Word; decide
  have k3 : Word 6364136223846793005 := by unfold Word; decide
  have q1 : Word (mlo lo 4865540595714422341) := wrap_word _
  have q2 := cr_bit q1 k2 (Int.le_refl 0) (by decide)
  have a1 := fun w => add64 _ _ 0 q1 k2 (Int.le_refl 0) (by decide) w
  have a2 := fun w => add64 _ _ _ (show Word (n2 hi lo) from wrap_word _) k3 q2.1 q2.2 w
  have HM : Hid (_) := fun w => mul64 lo _ w h2 k1
  clear h1 h2 k1 k2 k3 q1 q2
  go_enter Try.func46, Try.ntmps46
  go_wp2_with fail
  refine (HM.out _).mono ?_
  rintro e w' ⟨rfl, hw⟩
  subst hw
  have e2 : IntKind.u64.wrap (mhi lo 4865540595714422341 + IntKind.u64.wrap (IntKind.u64.wrap (hi * 4865540595714422341) + IntKind.u64.wrap (lo * 2549297995355413924))) = n2 hi lo := rfl
  go_wp2
  go_quiet (fail)
  clear HM
  go_wp2
  go_ret2
  exact ⟨rfl, (((Only.refl pb _).setCell 1 _).setCell 0 _).drewN _⟩

theorem n1_word (hi lo : Int) : Word (n1 hi lo) := sm_word _ _ _
theorem n3_word (hi lo : Int) : Word (n3 hi lo) := sm_word _ _ _

/-- What the generator hands out, of its state. -/
def mix (h l : Int) : Int := IntKind.u64.wrap
                        (bits BinOp.xor IntKind.u64
                            (IntKind.u64.wrap (bits BinOp.xor IntKind.u64 h (h / 4294967296) * 15750249268501108917))
                            (IntKind.u64.wrap (bits BinOp.xor IntKind.u64 h (h / 4294967296) * 15750249268501108917) /
                              281474976710656) *
                          bits BinOp.or IntKind.u64 l 1)
def R (hi lo : Int) : Int := mix (n3 hi lo) (n1 hi lo)
theorem R_word (hi lo : Int) : Word (R hi lo) := wrap_word _

theorem uint64_of (hi lo : Int) (pb : Nat) (w : World) (h1 : Word hi) (h2 : Word lo) (c0 : w.cell? ⟨pb, 0, none⟩ = some (.int .u64 hi)) (c1 : w.cell? ⟨pb, 1, none⟩ = some (.int .u64 lo))
    (f0 : w.frozen? ⟨pb, 0, none⟩ = false) (f1 : w.frozen? ⟨pb, 1, none⟩ = false) :
    Calls Try.prog 45 #[.pointer (some ⟨pb, 0, none⟩)] w fun e w' => e = .returned (.int .u64 (R hi lo)) ∧ Only pb w w' := by
  have HN : Hid (_) := next hi lo pb w h1 h2 c0 c1 f0 f1
  have k3 := (n3_word hi lo).1
  clear h1 h2 c0 c1 f0 f1
  unfold R
  generalize n1 hi lo = l at *
  generalize n3 hi lo = h at *
  go_enter Try.func45, Try.ntmps45
  go_wp2_with fail
  refine Calls.mono HN.out ?_
  rintro e w' ⟨rfl, ho⟩
  go_wp2
  go_ret
  exact ⟨rfl, ho⟩

theorem method_u (a : Addr) (w : World) : (method 210 53 (.pointer (some a)) "Uint64").run Try.prog w = .ok (45, .pointer (some a)) w := by kernel_rfl

theorem randU (hi lo : Int) (rb pb : Nat) (w : World) (h1 : Word hi) (h2 : Word lo) (c : w.cell? ⟨rb, 0, none⟩ = some (.iface 53 (.pointer (some ⟨pb, 0, none⟩))))
    (c0 : w.cell? ⟨pb, 0, none⟩ = some (.int .u64 hi)) (c1 : w.cell? ⟨pb, 1, none⟩ = some (.int .u64 lo)) (f0 : w.frozen? ⟨pb, 0, none⟩ = false) (f1 : w.frozen? ⟨pb, 1, none⟩ = false) :
    Calls Try.prog 22 #[.pointer (some ⟨rb, 0, none⟩)] w fun e w' => e = .returned (.int .u64 (R hi lo)) ∧ Only pb w w' := by
  have hm := fun w => method_u ⟨pb, 0, none⟩ w
  have HN : Hid (_) := uint64_of hi lo pb w h1 h2 c0 c1 f0 f1
  clear h1 h2 c0 c1 f0 f1
  go_enter Try.func22, Try.ntmps22
  go_wp2_with fail
  refine Calls.mono HN.out ?_
  rintro e w' ⟨rfl, ho⟩
  clear HN hm c
  go_wp2
  go_ret
  exact ⟨rfl, ho⟩

/-- The 53 bits that make a float. -/
def k53 (hi lo : Int) : Int := IntKind.u64.wrap (R hi lo * 2048) / 2048
theorem k53_bd (hi lo : Int) : 0 ≤ k53 hi lo ∧ k53 hi lo < 9007199254740992 := by
  have h := wrap_word (R hi lo * 2048)
  unfold Word at h; unfold k53; omega

theorem float64_of (hi lo : Int) (rb pb : Nat) (F : Nat) (w : World) (h1 : Word hi) (h2 : Word lo) (c : w.cell? ⟨rb, 0, none⟩ = some (.iface 53 (.pointer (some ⟨pb, 0, none⟩))))
    (c0 : w.cell? ⟨pb, 0, none⟩ = some (.int .u64 hi)) (c1 : w.cell? ⟨pb, 1, none⟩ = some (.int .u64 lo)) (f0 : w.frozen? ⟨pb, 0, none⟩ = false) (f1 : w.frozen? ⟨pb, 1, none⟩ = false)
    (hF : Ieee.double.div (floatOfInt .f64 (k53 hi lo)) 4845873199050653696 = some F) :
    Calls Try.prog 20 #[.pointer (some ⟨rb, 0, none⟩)] w fun e w' => e = .returned (.float .f64 F) ∧ Only pb w w' := by
  have HN : Hid (_) := randU hi lo rb pb w h1 h2 c c0 c1 f0 f1
  have rd := fun w => run_float_arith (P := Try.prog) w .quo 22 .f64 (floatOfInt .f64 (k53 hi lo)) 4845873199050653696 F hF
  clear h1 h2 c0 c1 f0 f1 c hF
  unfold k53 at rd
  have hr := (R_word hi lo).1
  generalize R hi lo = r at *
  go_enter Try.func20, Try.ntmps20
  go_wp2_with fail
  refine Calls.mono HN.out ?_
  rintro e w' ⟨rfl, ho⟩
  clear HN
  go_wp2
  go_ret
  exact ⟨rfl, ho⟩
end Go.Proofs.Qxb6618562a.Pcg
