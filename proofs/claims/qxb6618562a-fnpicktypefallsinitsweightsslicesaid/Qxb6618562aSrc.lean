import Derived.Test.Qxb6618562aPcg
import Derived.Deep.OwnRows
import Derived.Deep.Light
namespace Go.Proofs.Qxb6618562a.Src
open Go.ChangeShapes Go.WideShapes Go.ChangeAt Go.RowKit
set_option linter.unusedVariables false
theorem info23 : (Try.prog.info? 23).map (fun i => (i.zero, i.size, i.bytes)) = some (some (.pointer none), 1, 8) := by kernel_rfl

theorem cell_other (w : World) (b o b' o' : Nat) (v : Value) (h : b ≠ b') : (w.setCell ⟨b, o, none⟩ v).cell? ⟨b', o', none⟩ = w.cell? ⟨b', o', none⟩ :=
  World.cell?_setCell_other _ _ _ _ (by intro e; injection e; contradiction)

/-- A source as the road makes it: the types' row at block tb, type i at tb + 1 + i, then the workload, the generator's state, the generator, a map, the source. -/
structure SrcAt (w : World) (tb n : Nat) (ws : Nat → Nat) (total : Nat) (hi lo : Int) : Prop where
  src0 : w.cell? ⟨tb + 1 + n + 4, 0, none⟩ = some (.pointer (some ⟨tb + 1 + n, 0, none⟩))
  src1 : w.cell? ⟨tb + 1 + n + 4, 1, none⟩ = some (.pointer (some ⟨tb + 1 + n + 2, 0, none⟩))
  types8 : w.cell? ⟨tb + 1 + n, 8, none⟩ = some (.slice (some ⟨tb, 0, none⟩) n n)
  total15 : w.cell? ⟨tb + 1 + n, 15, none⟩ = some (.float .f64 total)
  rng : w.cell? ⟨tb + 1 + n + 2, 0, none⟩ = some (.iface 53 (.pointer (some ⟨tb + 1 + n + 1, 0, none⟩)))
  p0 : w.cell? ⟨tb + 1 + n + 1, 0, none⟩ = some (.int .u64 hi)
  p1 : w.cell? ⟨tb + 1 + n + 1, 1, none⟩ = some (.int .u64 lo)
  f0 : w.frozen? ⟨tb + 1 + n + 1, 0, none⟩ = false
  f1 : w.frozen? ⟨tb + 1 + n + 1, 1, none⟩ = false
  types : ∀ i, i < n → w.cell? ⟨tb, i, none⟩ = some (.pointer (some ⟨tb + 1 + i, 0, none⟩))
  weights : ∀ i, i < n → w.cell? ⟨tb + 1 + i, 2, none⟩ = some (.float .f64 (ws i))
  size : tb + 1 + n + 4 < w.heap.size
  txn : ∀ i, i < n → ∃ c, w.heap[tb + 1 + i]? = some (.cells c 41 (0, 0))

theorem srcAt_mk (wr : World) (tb n : Nat) (ws : Nat → Nat) (total : Nat) (s1 s2 : Int) (c50 c70 c68 c62 : Array Value) (M : Obj) (hsz : wr.heap.size = tb + 1 + n)
    (ht : ∀ i, i < n → wr.cell? ⟨tb, i, none⟩ = some (.pointer (some ⟨tb + 1 + i, 0, none⟩))) (hw : ∀ i, i < n → ∃ c, wr.heap[tb + 1 + i]? = some (.cells c 41 (0, 0)) ∧ c[2]? = some (.float .f64 (ws i)))
    (h0 : c62[0]? = some (.pointer (some ⟨tb + 1 + n, 0, none⟩))) (h1 : c62[1]? = some (.pointer (some ⟨tb + 1 + n + 2, 0, none⟩)))
    (h8 : c50[8]? = some (.slice (some ⟨tb, 0, none⟩) n n)) (h15 : c50[15]? = some (.float .f64 total)) (hr : c68[0]? = some (.iface 53 (.pointer (some ⟨tb + 1 + n + 1, 0, none⟩))))
    (hp0 : c70[0]? = some (.int .u64 s1)) (hp1 : c70[1]? = some (.int .u64 s2)) :
    SrcAt (((((wr.alloc (.cells c50 50)).alloc (.cells c70 70)).alloc (.cells c68 68)).alloc M).alloc (.cells c62 62)) tb n ws total s1 s2 := by
  have z1 : (wr.alloc (.cells c50 50)).heap.size = tb + 1 + n + 1 := by rw [World.size_alloc, hsz]
  have z2 : ((wr.alloc (.cells c50 50)).alloc (.cells c70 70)).heap.size = tb + 1 + n + 2 := by rw [World.size_alloc, z1]
  have z3 : (((wr.alloc (.cells c50 50)).alloc (.cells c70 70)).alloc (.cells c68 68)).heap.size = tb + 1 + n + 3 := by rw [World.size_alloc, z2]
  have z4 : ((((wr.alloc (.cells c50 50)).alloc (.cells c70 70)).alloc (.cells c68 68)).alloc M).heap.size = tb + 1 + n + 4 := by rw [World.size_alloc, z3]
  have old : ∀ m i, m < tb + 1 + n → (((((wr.alloc (.cells c50 50)).alloc (.cells c70 70)).alloc (.cells c68 68)).alloc M).alloc (.cells c62 62)).cell? ⟨m, i, none⟩ = wr.cell? ⟨m, i, none⟩ := by
    intro m i hm
    rw [World.cell?_alloc_past _ _ _ (by omega), World.cell?_alloc_past _ _ _ (by omega), World.cell?_alloc_past _ _ _ (by omega), World.cell?_alloc_past _ _ _ (by omega), World.cell?_alloc_past _ _ _ (by omega)]
  have oldb : ∀ m, m < tb + 1 + n → (((((wr.alloc (.cells c50 50)).alloc (.cells c70 70)).alloc (.cells c68 68)).alloc M).alloc (.cells c62 62)).heap[m]? = wr.heap[m]? := by
    intro m hm
    rw [Below.heap_alloc _ _ _ (by omega), Below.heap_alloc _ _ _ (by omega), Below.heap_alloc _ _ _ (by omega), Below.heap_alloc _ _ _ (by omega), Below.heap_alloc _ _ _ (by omega)]
  have b50 : ∀ i, (((((wr.alloc (.cells c50 50)).alloc (.cells c70 70)).alloc (.cells c68 68)).alloc M).alloc (.cells c62 62)).cell? ⟨tb + 1 + n, i, none⟩ = c50[i]? := by
    intro i
    rw [World.cell?_alloc_past _ _ _ (by omega), World.cell?_alloc_past _ _ _ (by omega), World.cell?_alloc_past _ _ _ (by omega), World.cell?_alloc_past _ _ _ (by omega), World.cell?_alloc_at _ _ _ _ (by omega)]
  have b70 : ∀ i, (((((wr.alloc (.cells c50 50)).alloc (.cells c70 70)).alloc (.cells c68 68)).alloc M).alloc (.cells c62 62)).cell? ⟨tb + 1 + n + 1, i, none⟩ = c70[i]? := by
    intro i
    rw [World.cell?_alloc_past _ _ _ (by omega), World.cell?_alloc_past _ _ _ (by omega), World.cell?_alloc_past _ _ _ (by omega), World.cell?_alloc_at _ _ _ _ (by omega)]
  have b68 : ∀ i, (((((wr.alloc (.cells c50 50)).alloc (.cells c70 70)).alloc (.cells c68 68)).alloc M).alloc (.cells c62 62)).cell? ⟨tb + 1 + n + 2, i, none⟩ = c68[i]? := by
    intro i
    rw [World.cell?_alloc_past _ _ _ (by omega), World.cell?_alloc_past _ _ _ (by omega), World.cell?_alloc_at _ _ _ _ (by omega)]
  have b62 : ∀ i, (((((wr.alloc (.cells c50 50)).alloc (.cells c70 70)).alloc (.cells c68 68)).alloc M).alloc (.cells c62 62)).cell? ⟨tb + 1 + n + 4, i, none⟩ = c62[i]? := by
    intro i
    rw [World.cell?_alloc_at _ _ _ _ (by omega)]
  have fz : ∀ i, (((((wr.alloc (.cells c50 50)).alloc (.cells c70 70)).alloc (.cells c68 68)).alloc M).alloc (.cells c62 62)).frozen? ⟨tb + 1 + n + 1, i, none⟩ = false := by
    intro i
    rw [World.frozen?_alloc_past _ _ _ (by omega), World.frozen?_alloc_past _ _ _ (by omega), World.frozen?_alloc_past _ _ _ (by omega), World.frozen?_alloc_at _ _ _ _ (by omega)]
  exact ⟨(b62 0).trans h0, (b62 1).trans h1, (b50 8).trans h8, (b50 15).trans h15, (b68 0).trans hr, (b70 0).trans hp0, (b70 1).trans hp1, fz 0, fz 1,
    fun i hi => (old _ _ (by omega)).trans (ht i hi), fun i hi => (old _ _ (by omega)).trans (by obtain ⟨c, hc, h2⟩ := hw i hi; simp [World.cell?, hc, h2]), by rw [World.size_alloc, z4]; omega, fun i hi => by obtain ⟨c, hc, _⟩ := hw i hi; exact ⟨c, (oldb _ (by omega)).trans hc⟩⟩

set_option maxHeartbeats 1000000 in
theorem newSource (b n : Nat) (ws : Nat → Nat) (total : Nat) (s1 s2 : Int) (w : World) (hn : n ≤ 100000) (hb : b < w.heap.size) (hws : ∀ i, i < n → w.cell? ⟨b, i, none⟩ = some (.float .f64 (ws i))) :
    Calls Try.prog 12 #[.slice (some ⟨b, 0, none⟩) n n, .float .f64 total, .int .u64 s1, .int .u64 s2] w fun e w' =>
      e = .returned (.pointer (some ⟨w.heap.size + 1 + n + 4, 0, none⟩)) ∧ SrcAt w' w.heap.size n ws total s1 s2 ∧ Below w.heap.size w w' := by
  have hmk := fun w => run_make_row' (P := Try.prog) 43 23 (.pointer none) 8 Try.underlying43 info23 rfl .i64 .i64 n (by omega) (by omega) w
  go_enter Try.func12, Try.ntmps12
  go_wp2
  clear hmk
  go_loopw [10] (fun i wr => ∃ k : Nat, k ≤ n ∧ i = .int .i64 k ∧ wr.heap.size = w.heap.size + 1 + k ∧ wr.rowIs w.heap.size 23 n (fun j => if j < k then .pointer (some ⟨w.heap.size + 1 + j, 0, none⟩) else .pointer none) ∧ (∀ j, j < k → ∃ c, wr.heap[w.heap.size + 1 + j]? = some (.cells c 41 (0, 0)) ∧ c[2]? = some (.float .f64 (ws j))) ∧ Below w.heap.size w wr) (fun i _ => n - (intOf i).toNat)
  case atStart =>
    refine ⟨0, Nat.zero_le _, rfl, by simp, ?_, fun j hj => absurd hj (Nat.not_lt_zero _), (Below.refl _ _).alloc (Nat.le_refl _) _⟩
    simpa using World.rowIs_made w (.pointer none) n 23
  case round =>
    obtain ⟨k, hk, rfl, hsz, hrow, hcells, hbel⟩ := hrel
    by_cases hlt : k < n
    · have hx : wr.cell? ⟨b, k, none⟩ = some (.float .f64 (ws k)) := by
        rw [hbel.cell (p := ⟨b, k, none⟩) hb]; exact hws k hlt
      have hc : ∀ o, ∃ v, (wr.alloc o).cell? ⟨w.heap.size, k, none⟩ = some v := fun o =>
        ⟨_, (World.cell?_alloc_past o _ _ (by omega)).trans (hrow.cell hlt)⟩
      have hf : ∀ o, (wr.alloc o).frozen? ⟨w.heap.size, k, none⟩ = false := fun o =>
        (World.frozen?_alloc_past o _ _ (by omega)).trans (hrow.frozen _)
      obtain ⟨v, hv⟩ := hc (.cells #[.int .i64 k, .string ⟨#[]⟩, .float .f64 (ws k), .slice none 0 0, .int .i64 0, .int .i64 0, .float .f64 0, .float .f64 0, .bool false, .float .f64 0, .float .f64 0, .float .f64 0, .bool false, .float .f64 0] 41)
      have HR : Hid (_) := hrow
      have HC : Hid (_) := hcells
      clear hc hrow hcells hws
      go_wp2
      go_roundw
      case rel =>
        go_light
        refine ⟨k + 1, by omega, by go_num, ?_, ?_, ?_, ?_⟩
        · simp [World.setCell]; omega
        · refine (((show World.rowIs _ _ _ _ _ from HR.out).alloc _).set k _).congr ?_
          intro j hj
          by_cases e : j = k
          · subst e; simp
          · by_cases e2 : j < k
            · simp [e, e2]; omega
            · have : ¬ j < k + 1 := by omega
              simp [e, e2, this]
        · intro j hj
          by_cases e : j = k
          · subst e
            refine ⟨#[.int .i64 j, .string ⟨#[]⟩, .float .f64 (ws j), .slice none 0 0, .int .i64 0, .int .i64 0, .float .f64 0, .float .f64 0, .bool false, .float .f64 0, .float .f64 0, .float .f64 0, .bool false, .float .f64 0], ?_, rfl⟩
            rw [Below.heap_setCell _ _ _ _ (show w.heap.size + 1 + j ≠ w.heap.size from by omega), ← hsz]
            exact (MapKept.heap_alloc wr _).1
          · obtain ⟨c, hc, h2⟩ := HC.out j (by omega)
            refine ⟨c, ?_, h2⟩
            rw [Below.heap_setCell _ _ _ _ (show w.heap.size + 1 + j ≠ w.heap.size from by omega), Below.heap_alloc _ _ _ (by omega)]
            exact hc
        · exact (hbel.alloc (by omega) _).setCell (by simp) _
      case measure => go_light; simp [intOf]; omega
    · obtain rfl : k = n := by omega
      have hmm := @run_makeMap Try.prog
      have HR : Hid (_) := hrow
      have HC : Hid (_) := hcells
      clear hrow hcells hws
      go_wp2
      go_ret
      refine ⟨rfl, ?_, ?_⟩
      · go_light
        refine srcAt_mk wr w.heap.size k ws total s1 s2 _ _ _ _ _ hsz ?_ ?_ rfl rfl rfl rfl rfl rfl rfl
        · intro i hi
          have h := (show World.rowIs wr w.heap.size 23 k _ from HR.out).cell hi
          rw [h]; simp [hi]
        · intro i hi
          exact HC.out i hi
      · go_light
        exact ((((hbel.alloc (by omega) _).alloc (by simp; omega) _).alloc (by simp; omega) _).alloc (by simp; omega) _).alloc (by simp; omega) _
end Go.Proofs.Qxb6618562a.Src
