/- The copy that both laws make of their weights first. -/
import Derived.Test.Qxb6618562aPickWalk
import Derived.Laws.CopyOwn
import Derived.LaidEqlPtr
import Derived.Deep.Slices
namespace Go.Proofs.Qxb6618562a.Src
open Go.ChangeShapes Go.WideShapes Go.ChangeAt Go.RowKit
set_option linter.unusedVariables false

theorem info22 : (Try.prog.info? 22).map (fun i => (i.zero, i.size, i.bytes)) = some (some (.float .f64 0), 1, 8) := by kernel_rfl
theorem size22 : (Try.prog.info? 22).map (·.size) = some 1 := by kernel_rfl

def fl (ws : Nat → Nat) (i : Nat) : Value := .float .f64 (ws i)

theorem clone_run (x : Addr) (n cap : Nat) (ws : Nat → Nat) (w : World) (hc : ∀ i, i < n → w.cell? (x.add i) = some (.float .f64 (ws i))) :
    ∃ w2, (Builtin.copy_ #[29, 29] 3 #[.slice (some ⟨w.heap.size, 0, none⟩) n n, .slice (some x) n cap]).run Try.prog (w.alloc (.cells (madeCells #[.float .f64 0] n) 22)) = .ok (goInt n) w2 ∧
      w2.rowIs w.heap.size 22 n (fl ws) ∧ Below w.heap.size w w2 ∧ w2.heap.size = w.heap.size + 1 := by
  have lcs : ((List.range n).map (fl ws)).length = n := by simp
  have hg : (w.alloc (.cells (madeCells #[.float .f64 0] n) 22)).heap[w.heap.size]? = some (.cells (madeCells #[.float .f64 0] n) 22 (0, 0)) := (MapKept.heap_alloc w _).1
  have hrun := run_copy_row (P := Try.prog) (w.alloc (.cells (madeCells #[.float .f64 0] n) 22)) 29 29 3 22 w.heap.size 0 n n x n cap (madeCells #[.float .f64 0] n) 22 ((List.range n).map (fl ws))
    Try.underlying29 size22 hg (by rw [lcs]; exact (Nat.min_self n).symm)
    (by
      intro j v h
      rw [List.getElem?_map] at h
      by_cases hj : j < n
      · rw [List.getElem?_range hj] at h
        cases h
        exact Lib.cell?_alloc_some _ (hc j hj)
      · rw [List.getElem?_eq_none (by simp; omega)] at h; cases h)
    (by rw [lcs, size_madeCells]; omega)
    (by
      intro v hv
      obtain ⟨i, _, rfl⟩ := List.mem_map.1 hv
      rfl)
  rw [lcs] at hrun
  refine ⟨_, hrun, ?_, ?_, ?_⟩
  · refine ⟨_, setRow_heap _ _ _ _ _ _ hg, ?_, ?_⟩
    · simp [size_madeCells]
    · intro i hi
      simp only [List.take_zero, List.nil_append, List.getElem?_toArray]
      rw [List.getElem?_append_left (by simpa using hi), List.getElem?_map, List.getElem?_range hi]
      rfl
  · exact below_setRow ((Below.refl _ _).alloc (Nat.le_refl _) _) (Nat.le_refl _) _
  · simp [World.setRow]

theorem rng64 (tb n : Nat) (ws : Nat → Nat) (total F : Nat) (hi lo : Int) (w : World) (h1 : Pcg.Word hi) (h2 : Pcg.Word lo) (hs : SrcAt w tb n ws total hi lo)
    (hF : Ieee.double.div (floatOfInt .f64 (Pcg.k53 hi lo)) 4845873199050653696 = some F) :
    Calls Try.prog 13 #[.pointer (some ⟨tb + 1 + n + 4, 0, none⟩)] w fun e w' => e = .returned (.float .f64 F) ∧ Pcg.Only (tb + 1 + n + 1) w w' := by
  have HC : Hid (_) := Pcg.float64_of hi lo (tb + 1 + n + 2) (tb + 1 + n + 1) F w h1 h2 hs.rng hs.p0 hs.p1 hs.f0 hs.f1 hF
  have g1 := hs.src1
  clear hs hF h1 h2
  generalize tb + 1 + n + 4 = sb at *
  generalize tb + 1 + n + 2 = rb at *
  generalize tb + 1 + n + 1 = pb at *
  go_enter Try.func13, Try.ntmps13
  go_wp2_with fail
  refine Calls.mono HC.out ?_
  rintro e w' ⟨rfl, ho⟩
  clear g1
  go_wp2
  go_ret
  exact ⟨rfl, ho⟩

/-- A source stays while nothing below a bound above it turns. -/
theorem SrcAt.below {w w' : World} {tb n : Nat} {ws : Nat → Nat} {total : Nat} {hi lo : Int} {B : Nat} (h : SrcAt w tb n ws total hi lo) (hb : Below B w w') (hB : tb + 1 + n + 4 < B) : SrcAt w' tb n ws total hi lo := by
  have c : ∀ b o, b < B → w'.cell? ⟨b, o, none⟩ = w.cell? ⟨b, o, none⟩ := fun b o h => hb.cell (p := ⟨b, o, none⟩) h
  have f : ∀ b o, b < B → w'.frozen? ⟨b, o, none⟩ = w.frozen? ⟨b, o, none⟩ := fun b o h => hb.frozen (p := ⟨b, o, none⟩) h
  exact ⟨(c _ _ (by omega)).trans h.src0, (c _ _ (by omega)).trans h.src1, (c _ _ (by omega)).trans h.types8, (c _ _ (by omega)).trans h.total15, (c _ _ (by omega)).trans h.rng, (c _ _ (by omega)).trans h.p0, (c _ _ (by omega)).trans h.p1,
    (f _ _ (by omega)).trans h.f0, (f _ _ (by omega)).trans h.f1, fun i hi => (c _ _ (by omega)).trans (h.types i hi), fun i hi => (c _ _ (by omega)).trans (h.weights i hi), Nat.lt_of_lt_of_le h.size hb.size,
    fun i hi => by obtain ⟨q, hq⟩ := h.txn i hi; exact ⟨q, (hb.block _ (by omega)).trans hq⟩⟩

/-- .. and while only a block that lies below it turns. -/
theorem SrcAt.only {w w' : World} {tb n : Nat} {ws : Nat → Nat} {total : Nat} {hi lo : Int} {pb : Nat} (h : SrcAt w tb n ws total hi lo) (ho : Pcg.Only pb w w') (hp : pb < tb) : SrcAt w' tb n ws total hi lo := by
  have c : ∀ b o, b ≠ pb → w'.cell? ⟨b, o, none⟩ = w.cell? ⟨b, o, none⟩ := fun b o h => ho.cell (p := ⟨b, o, none⟩) h
  have f : ∀ b o, b ≠ pb → w'.frozen? ⟨b, o, none⟩ = w.frozen? ⟨b, o, none⟩ := fun b o h => World.frozen?_of_block (w := w) (ho.block b h)
  exact ⟨(c _ _ (by omega)).trans h.src0, (c _ _ (by omega)).trans h.src1, (c _ _ (by omega)).trans h.types8, (c _ _ (by omega)).trans h.total15, (c _ _ (by omega)).trans h.rng, (c _ _ (by omega)).trans h.p0, (c _ _ (by omega)).trans h.p1,
    (f _ _ (by omega)).trans h.f0, (f _ _ (by omega)).trans h.f1, fun i hi => (c _ _ (by omega)).trans (h.types i hi), fun i hi => (c _ _ (by omega)).trans (h.weights i hi), by rw [ho.size]; exact h.size,
    fun i hi => by obtain ⟨q, hq⟩ := h.txn i hi; exact ⟨q, (ho.block _ (by omega)).trans hq⟩⟩

/-- What is asked of a source once its type is picked. -/
structure View (w : World) (tb n : Nat) : Prop where
  src0 : w.cell? ⟨tb + 1 + n + 4, 0, none⟩ = some (.pointer (some ⟨tb + 1 + n, 0, none⟩))
  types8 : w.cell? ⟨tb + 1 + n, 8, none⟩ = some (.slice (some ⟨tb, 0, none⟩) n n)
  types : ∀ i, i < n → w.cell? ⟨tb, i, none⟩ = some (.pointer (some ⟨tb + 1 + i, 0, none⟩))
  txn : ∀ i, i < n → ∃ c, w.heap[tb + 1 + i]? = some (.cells c 41 (0, 0))

theorem SrcAt.view {w w' : World} {tb n : Nat} {ws : Nat → Nat} {total : Nat} {hi lo : Int} (h : SrcAt w tb n ws total hi lo) (ho : Pcg.Only (tb + 1 + n + 1) w w') : View w' tb n := by
  have c : ∀ b o, b ≠ tb + 1 + n + 1 → w'.cell? ⟨b, o, none⟩ = w.cell? ⟨b, o, none⟩ := fun b o h => ho.cell (p := ⟨b, o, none⟩) h
  exact ⟨(c _ _ (by omega)).trans h.src0, (c _ _ (by omega)).trans h.types8, fun i hi => (c _ _ (by omega)).trans (h.types i hi), fun i hi => by obtain ⟨q, hq⟩ := h.txn i hi; exact ⟨q, (ho.block _ (by omega)).trans hq⟩⟩

theorem View.only {w w' : World} {tb n pb : Nat} (h : View w tb n) (ho : Pcg.Only pb w w') (hp : tb + 1 + n + 4 < pb) : View w' tb n := by
  have c : ∀ b o, b ≠ pb → w'.cell? ⟨b, o, none⟩ = w.cell? ⟨b, o, none⟩ := fun b o h => ho.cell (p := ⟨b, o, none⟩) h
  exact ⟨(c _ _ (by omega)).trans h.src0, (c _ _ (by omega)).trans h.types8, fun i hi => (c _ _ (by omega)).trans (h.types i hi), fun i hi => by obtain ⟨q, hq⟩ := h.txn i hi; exact ⟨q, (ho.block _ (by omega)).trans hq⟩⟩

theorem info41 : ∃ j, Try.prog.info? 41 = some j ∧ j.size ≠ 0 := by
  have h : (Try.prog.info? 41).map (fun i => decide (i.size ≠ 0)) = some true := by kernel_rfl
  obtain ⟨j, hj, h2⟩ := Option.map_eq_some_iff.1 h
  exact ⟨j, hj, by simpa using h2⟩

theorem eq_same (a : Nat) (w : World) : (binOp .eql 23 (.pointer (some ⟨a, 0, none⟩)) (.pointer (some ⟨a, 0, none⟩))).run Try.prog w = .ok (.bool true) w := by
  obtain ⟨j, hj, _⟩ := info41
  exact run_eql_ptr_same w _ Try.underlying23 hj

theorem eq_other {w : World} {tb n : Nat} (h : View w tb n) {i j : Nat} (hi : i < n) (hj : j < n) (hne : i ≠ j) :
    (binOp .eql 23 (.pointer (some ⟨tb + 1 + i, 0, none⟩)) (.pointer (some ⟨tb + 1 + j, 0, none⟩))).run Try.prog w = .ok (.bool false) w := by
  obtain ⟨q, hq, hz⟩ := info41
  obtain ⟨c1, h1⟩ := h.txn i hi
  obtain ⟨c2, h2⟩ := h.txn j hj
  exact run_eql_ptr_other w Try.underlying23 hq hz (by intro e; injection e; omega) h1 h2

/-- What the walk is told of a slice of floats that came in: it is nil, or its cells hold the floats ws. -/
def IsFloats (w : World) (a : Option Addr) (len cap : Nat) (ws : Nat → Nat) : Prop :=
  (a = none ∧ len = 0 ∧ cap = 0) ∨
  ∃ x, a = some x ∧ len ≤ maxLen ∧ (∀ i, i < len → w.cell? (x.add i) = some (.float .f64 (ws i))) ∧ ∀ i, i < len → ws i < 18446744073709551616

theorem open_floats {H : Type} {enc : TypeId × Value → H} {P : Program} {w : World} {base : Nat} {spare : Nat → Bool} {held : Bool} {t e : TypeId} {fuel : Nat} {a : Option Addr} {len cap : Nat} {x : DataW H × List MemPlace}
    (ht : P.underlying t = some (.slice e)) (he : P.underlying e = some (.float .f64)) (hc : P.cellsOf e = 1) (h : DataW.trod enc P w base spare held fuel t [.slice a len cap] = some x) :
    ∃ ws, IsFloats w a len cap ws := by
  rcases Deep.open_slice ht h with ⟨hcs, _⟩ | ⟨y, l, c, m, n, D, Pl, hcs, _, hl, hm, hmm, _, hel⟩
  · simp at hcs
    obtain ⟨rfl, rfl, rfl⟩ := hcs
    exact ⟨fun _ => 0, .inl ⟨rfl, rfl, rfl⟩⟩
  · simp at hcs
    obtain ⟨rfl, rfl, rfl⟩ := hcs
    have hlm : len ≤ m := by rw [hmm]; split <;> omega
    have each : ∀ i, i < len → ∃ b : Nat, w.cell? (y.add i) = some (.float .f64 b) ∧ b < 18446744073709551616 := by
      intro i hi
      obtain ⟨cs', h1, h2⟩ := hel i (by omega)
      rw [hc, Nat.mul_one] at h1
      cases n with
      | zero => simp [DataW.trod] at h2
      | succ n =>
        simp only [DataW.trod, he] at h2
        match cs', h2 with
        | [.float k b], h2 =>
          by_cases hk : k = .f64
          · subst hk
            by_cases hw : (Lit.float .f64 b).wf = true
            · exact ⟨b, cell_of_cells?_one h1, by simpa [Lit.wf] using hw⟩
            · simp [hw] at h2
          · cases k
            · simp at h2
            · exact absurd rfl hk
    obtain ⟨ws, hws⟩ := Deep.choose_lt (p := fun i b => w.cell? (y.add i) = some (.float .f64 b) ∧ b < 18446744073709551616) each
    exact ⟨ws, .inr ⟨y, rfl, by omega, fun i hi => (hws i hi).1, fun i hi => (hws i hi).2⟩⟩
end Go.Proofs.Qxb6618562a.Src
