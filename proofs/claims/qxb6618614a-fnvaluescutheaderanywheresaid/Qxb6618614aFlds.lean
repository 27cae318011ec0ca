import Derived.Test.Qxb6618614aStrs
import Derived.Deep.RegionHeld3
import Derived.Deep.RegionWith
namespace Go.Proofs.Qxb6618614a.Vals
open Go.ChangeShapes Go.WideShapes Go.RowKit
set_option linter.unusedVariables false

def e0 : Value := .string ⟨#[]⟩
theorem info34 : (Try.prog.info? 34).map (fun i => (i.zero.map Value.cells, i.size, i.bytes)) = some (some #[.string ⟨#[]⟩, .string ⟨#[]⟩], 2, 32) := by kernel_rfl
theorem info38 : (Try.prog.info? 38).map (fun i => (i.zero.map Value.cells, i.size, i.bytes)) = some (some #[.string ⟨#[]⟩, .string ⟨#[]⟩], 2, 32) := by kernel_rfl

theorem make2 (t e : TypeId) (ht : Try.prog.underlying t = some (.slice e)) (hinfo : (Try.prog.info? e).map (fun i => (i.zero.map Value.cells, i.size, i.bytes)) = some (some #[.string ⟨#[]⟩, .string ⟨#[]⟩], 2, 32)) (n : Nat) (hn : n ≤ 1048576) (w : World) :
    (Instr.makeSlice t (.int .i64 n) (.int .i64 n)).run Try.prog w = .ok (.slice (some ⟨w.heap.size, 0, none⟩) n n) (w.alloc (.cells (madeCells #[.string ⟨#[]⟩, .string ⟨#[]⟩] (n * 2)) e)) := by
  obtain ⟨i, hi, h⟩ := Option.map_eq_some_iff.1 hinfo
  simp only [Prod.mk.injEq] at h
  obtain ⟨hz, h2, h3⟩ := h
  obtain ⟨z, hz, hzc⟩ := Option.map_eq_some_iff.1 hz
  have := run_make (P := Try.prog) w t e i z ht hi hz .i64 .i64 n n (by omega) (by omega) (by rw [h3]; omega) (by omega)
  rw [h2, hzc] at this
  simpa using this

theorem made2 (w : World) (n : Nat) (e : TypeId) : (w.alloc (.cells (madeCells #[.string ⟨#[]⟩, .string ⟨#[]⟩] (n * 2)) e)).rowIs w.heap.size e (n * 2) (fun _ => e0) := by
  refine ⟨_, (MapKept.heap_alloc w _).1, size_madeCells _ _, fun i hi => ?_⟩
  simp only [madeCells]
  rw [Array.getElem?_map]
  have h2 : (Array.range (n * 2))[i]? = some i := by simp [hi]
  rw [h2]
  rcases Nat.mod_two_eq_zero_or_one i with h | h <;> simp [h, e0]

def cellOf (f : Nat → ByteArray × ByteArray) (j : Nat) : Value := if j % 2 = 0 then .string (f (j / 2)).1 else .string (f (j / 2)).2

theorem flds_row {w : World} {b n : Nat} {e : TypeId} {f : Nat → ByteArray × ByteArray} (h : w.rowIs b e (n * 2) (cellOf f)) (hn : n ≤ maxLen) : Flds w (some ⟨b, 0, none⟩) n n f := by
  refine ⟨Nat.le_refl _, hn, .inr ⟨b, 0, rfl, h.lt, fun i hi => ⟨?_, ?_⟩⟩⟩
  · have := h.cell (i := i * 2) (by omega)
    simpa [cellOf] using this
  · have := h.cell (i := i * 2 + 1) (by omega)
    have e1 : (i * 2 + 1) % 2 = 1 := by omega
    have e2 : (i * 2 + 1) / 2 = i := by omega
    simpa [cellOf, e1, e2] using this

theorem set2 {w : World} {b e q len : Nat} {f : Nat → ByteArray × ByteArray} (h : w.rowIs b e (len * 2) (fun j => if j < q * 2 then cellOf f j else e0)) :
    ((w.setCell ⟨b, q * 2, none⟩ (.string (f q).1)).setCell ⟨b, q * 2 + 1, none⟩ (.string (f q).2)).rowIs b e (len * 2) (fun j => if j < (q + 1) * 2 then cellOf f j else e0) := by
  refine ((h.set (q * 2) _).set (q * 2 + 1) _).congr ?_
  intro j hj
  by_cases h1 : j = q * 2 + 1
  · have e1 : (q * 2 + 1) % 2 = 1 := by omega
    have e2 : (q * 2 + 1) / 2 = q := by omega
    subst h1
    rw [if_pos rfl, if_pos (by omega)]
    simp [cellOf, e1, e2]
  · by_cases h2 : j = q * 2
    · subst h2
      rw [if_neg h1, if_pos rfl, if_pos (by omega)]
      simp [cellOf]
    · rw [if_neg h1, if_neg h2]
      by_cases h3 : j < q * 2
      · rw [if_pos h3, if_pos (by omega)]
      · rw [if_neg h3, if_neg (by omega)]

theorem clone_flds (a : Option Addr) (len cap : Nat) (f : Nat → ByteArray × ByteArray) (w : World) (hs : Flds w a len cap f) (hb : len ≤ 1048576) :
    Calls Try.prog 6 #[.slice a len cap] w fun e w' => ∃ a' c', e = .returned (.slice a' len c') ∧ Flds w' a' len c' f ∧ Below w.heap.size w w' := by
  obtain ⟨h1, h2, hs⟩ := hs
  cases a with
  | none =>
    rcases hs with ⟨rfl, h⟩ | ⟨b, o, h, _⟩
    · obtain rfl := h rfl
      have hnil := fun w => Go.Lib.run_eql_slice_nil (P := Try.prog) w 22 34 none 0 0 0 0 Try.underlying22
      go_enter Try.func6, Try.ntmps6
      go_wp2
      go_ret
      exact ⟨_, _, rfl, ⟨h1, h2, .inl ⟨rfl, fun _ => rfl⟩⟩, Below.refl _ _⟩
    · cases h
  | some x =>
    have hmk := fun w => make2 22 34 Try.underlying22 info34 len hb w
    have HR : Hid (_) := made2 w len 34
    have HB : Hid (Below w.heap.size w (w.alloc (.cells (madeCells #[.string ⟨#[]⟩, .string ⟨#[]⟩] (len * 2)) 34))) := (Below.refl _ _).alloc (Nat.le_refl _) _
    have hnil := fun w => Go.Lib.run_eql_slice_nil (P := Try.prog) w 22 34 (some x) len cap 0 0 Try.underlying22
    have HS : Hid (_) := hs
    clear hs
    unfold maxLen at h2
    go_enter Try.func6, Try.ntmps6
    go_wp2
    clear hmk hnil
    go_loopw [4] (fun i wr => ∃ q : Nat, q ≤ len ∧ i = .int .i64 q ∧ Hid (wr.rowIs w.heap.size 34 (len * 2) (fun j => if j < q * 2 then cellOf f j else e0)) ∧ Hid (Below w.heap.size w wr)) (fun i _ => len - (intOf i).toNat)
    case atStart => exact ⟨0, Nat.zero_le _, rfl, (show World.rowIs _ _ _ _ _ from HR.out).congr (fun _ _ => by simp), HB.out⟩
    case round =>
      obtain ⟨q, hq, rfl, HW, HBW⟩ := hrel
      by_cases hlt : q < len
      · obtain ⟨b, o, he, hbs, hc⟩ := (show _ ∨ _ from HS.out).resolve_left (fun h => by omega)
        cases he
        have k1 := (HBW.out.cell (p := ⟨b, o + q * 2, none⟩) hbs).trans (hc q hlt).1
        have k2 := (HBW.out.cell (p := ⟨b, o + q * 2 + 1, none⟩) hbs).trans (hc q hlt).2
        obtain ⟨v1, hv1⟩ : ∃ v, wr.cell? ⟨w.heap.size, q * 2, none⟩ = some v := ⟨_, (show World.rowIs _ _ _ _ _ from HW.out).cell (by omega)⟩
        obtain ⟨v2, hv2⟩ : ∃ v, wr.cell? ⟨w.heap.size, q * 2 + 1, none⟩ = some v := ⟨_, (show World.rowIs _ _ _ _ _ from HW.out).cell (by omega)⟩
        have f1 := (show World.rowIs _ _ _ _ _ from HW.out).frozen (q * 2)
        have f2 := (show World.rowIs _ _ _ _ _ from HW.out).frozen (q * 2 + 1)
        clear hc hbs
        go_wp2
        go_roundw
        case rel => exact ⟨q + 1, by omega, by go_num, set2 HW.out, (HBW.out.setCell (by simp) _).setCell (by simp) _⟩
        case measure => simp [intOf]; omega
      · obtain rfl : q = len := by omega
        go_wp2
        go_ret
        exact ⟨_, _, rfl, flds_row (World.rowIs.congr HW.out (fun j hj => if_pos hj)) (by unfold maxLen; omega), HBW.out⟩

theorem to_filter (a : Option Addr) (len cap : Nat) (f : Nat → ByteArray × ByteArray) (w : World) (hs : Flds w a len cap f) (hb : len ≤ 1048576) :
    Calls Try.prog 8 #[.slice a len cap] w fun e w' => ∃ a' c', e = .returned (.slice a' len c') ∧ Flds w' a' len c' f ∧ Below w.heap.size w w' := by
  obtain ⟨h1, h2, hs⟩ := hs
  cases a with
  | none =>
    rcases hs with ⟨rfl, h⟩ | ⟨b, o, h, _⟩
    · obtain rfl := h rfl
      have hnil := fun w => Go.Lib.run_eql_slice_nil (P := Try.prog) w 22 34 none 0 0 0 0 Try.underlying22
      go_enter Try.func8, Try.ntmps8
      go_wp2
      go_ret
      exact ⟨_, _, rfl, ⟨h1, h2, .inl ⟨rfl, fun _ => rfl⟩⟩, Below.refl _ _⟩
    · cases h
  | some x =>
    have hmk := fun w => make2 28 38 Try.underlying28 info38 len hb w
    have HR : Hid (_) := made2 w len 38
    have HB : Hid (Below w.heap.size w (w.alloc (.cells (madeCells #[.string ⟨#[]⟩, .string ⟨#[]⟩] (len * 2)) 38))) := (Below.refl _ _).alloc (Nat.le_refl _) _
    have hnil := fun w => Go.Lib.run_eql_slice_nil (P := Try.prog) w 22 34 (some x) len cap 0 0 Try.underlying22
    have HS : Hid (_) := hs
    clear hs
    unfold maxLen at h2
    go_enter Try.func8, Try.ntmps8
    go_wp2
    clear hmk hnil
    go_loopw [4] (fun i wr => ∃ q : Nat, q ≤ len ∧ i = .int .i64 q ∧ Hid (wr.rowIs w.heap.size 38 (len * 2) (fun j => if j < q * 2 then cellOf f j else e0)) ∧ Hid (Below w.heap.size w wr)) (fun i _ => len - (intOf i).toNat)
    case atStart => exact ⟨0, Nat.zero_le _, rfl, (show World.rowIs _ _ _ _ _ from HR.out).congr (fun _ _ => by simp), HB.out⟩
    case round =>
      obtain ⟨q, hq, rfl, HW, HBW⟩ := hrel
      by_cases hlt : q < len
      · obtain ⟨b, o, he, hbs, hc⟩ := (show _ ∨ _ from HS.out).resolve_left (fun h => by omega)
        cases he
        have k1 := (HBW.out.cell (p := ⟨b, o + q * 2, none⟩) hbs).trans (hc q hlt).1
        have k2 := (HBW.out.cell (p := ⟨b, o + q * 2 + 1, none⟩) hbs).trans (hc q hlt).2
        obtain ⟨v1, hv1⟩ : ∃ v, wr.cell? ⟨w.heap.size, q * 2, none⟩ = some v := ⟨_, (show World.rowIs _ _ _ _ _ from HW.out).cell (by omega)⟩
        obtain ⟨v2, hv2⟩ : ∃ v, wr.cell? ⟨w.heap.size, q * 2 + 1, none⟩ = some v := ⟨_, (show World.rowIs _ _ _ _ _ from HW.out).cell (by omega)⟩
        have f1 := (show World.rowIs _ _ _ _ _ from HW.out).frozen (q * 2)
        have f2 := (show World.rowIs _ _ _ _ _ from HW.out).frozen (q * 2 + 1)
        clear hc hbs
        go_wp2_with fail
        go_region
        all_goals
          go_wp2
          go_roundw
          case rel => exact ⟨q + 1, by omega, by go_num, set2 HW.out, Below.drew ((HBW.out.setCell (by simp) _).setCell (by simp) _)⟩
          case measure => simp [intOf]; omega
      · obtain rfl : q = len := by omega
        go_wp2
        go_ret
        exact ⟨_, _, rfl, flds_row (World.rowIs.congr HW.out (fun j hj => if_pos hj)) (by unfold maxLen; omega), HBW.out⟩
end Go.Proofs.Qxb6618614a.Vals
