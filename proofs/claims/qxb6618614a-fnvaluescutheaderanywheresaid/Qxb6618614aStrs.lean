import Derived.Test.Qxb6618614aRows
import Derived.WalkKit
import Derived.BigQuiet
import Derived.Deep.Strs
import Derived.Deep.SlicePairs
import Derived.Deep.OwnRows
import Derived.Laws.CopyOwn
import Derived.WalkSpells
import Derived.OpenShut
import Derived.Lib.SliceRun
import Derived.WalkSmall
import Derived.ChangeOld
namespace Go.Proofs.Qxb6618614a.Vals
open Go.ChangeShapes Go.WideShapes Go.RowKit
set_option linter.unusedVariables false

/-- A slice of strings that holds l. -/
def Strs (w : World) (a : Option Addr) (len cap : Nat) (l : List ByteArray) : Prop :=
  l.length = len ∧ len ≤ cap ∧ cap ≤ maxLen ∧ ((len = 0 ∧ (a = none → cap = 0)) ∨
    ∃ b o, a = some ⟨b, o, none⟩ ∧ b < w.heap.size ∧ ∀ i u, l[i]? = some u → w.cell? ⟨b, o + i, none⟩ = some (.string u))

/-- A slice of pairs of strings: element i is f i. -/
def Flds (w : World) (a : Option Addr) (len cap : Nat) (f : Nat → ByteArray × ByteArray) : Prop :=
  len ≤ cap ∧ cap ≤ maxLen ∧ ((len = 0 ∧ (a = none → cap = 0)) ∨
    ∃ b o, a = some ⟨b, o, none⟩ ∧ b < w.heap.size ∧ ∀ i, i < len → w.cell? ⟨b, o + i * 2, none⟩ = some (.string (f i).1) ∧ w.cell? ⟨b, o + i * 2 + 1, none⟩ = some (.string (f i).2))

theorem info9 : (Try.prog.info? 9).map (fun i => (i.zero, i.size, i.bytes)) = some (some (.string ⟨#[]⟩), 1, 16) := by kernel_rfl

set_option maxHeartbeats 1000000 in
theorem ph_any (s : ByteArray) : ∃ n : Int, -1 ≤ n ∧ n ≤ 9 ∧ (s.size ≠ 2 → n = -1) ∧ ∀ w, Calls Try.prog 15 #[.string s] w fun e w' => e = .returned (.int .i64 n) ∧ w = w' := by
  by_cases h2 : s.size = 2
  · have h0 : 0 < s.size := by omega
    have h1 : 1 < s.size := by omega
    by_cases t1 : ((s[0]).toNat : Int) = 36
    · by_cases t2 : 48 ≤ ((s[1]).toNat : Int) ∧ ((s[1]).toNat : Int) ≤ 57
      · refine ⟨(s[1]).toNat - 48, by omega, by omega, fun h => absurd h2 h, fun w => ?_⟩
        obtain ⟨t2, t3⟩ := t2
        go_enter Try.func15, Try.ntmps15
        go_wp2
        all_goals go_ret
        all_goals exact ⟨rfl, rfl⟩
      · refine ⟨-1, by omega, by omega, fun _ => rfl, fun w => ?_⟩
        have t3 : ((s[1]).toNat : Int) < 48 ∨ 57 < ((s[1]).toNat : Int) := by omega
        clear t2
        rcases t3 with t3 | t3
        all_goals
          go_enter Try.func15, Try.ntmps15
          go_wp2
          all_goals go_ret
          all_goals exact ⟨rfl, rfl⟩
    · refine ⟨-1, by omega, by omega, fun _ => rfl, fun w => ?_⟩
      go_enter Try.func15, Try.ntmps15
      go_wp2
      all_goals go_ret
      all_goals exact ⟨rfl, rfl⟩
  · refine ⟨-1, by omega, by omega, fun _ => rfl, fun w => ?_⟩
    go_enter Try.func15, Try.ntmps15
    go_wp2
    all_goals go_ret
    all_goals exact ⟨rfl, rfl⟩

theorem Strs.below {w w' : World} {a : Option Addr} {len cap B : Nat} {l : List ByteArray} (h : Strs w a len cap l) (hb : Below B w w') (hB : w.heap.size ≤ B) : Strs w' a len cap l := by
  obtain ⟨h1, h2, h3, h4⟩ := h
  refine ⟨h1, h2, h3, ?_⟩
  rcases h4 with h4 | ⟨b, o, h5, h6, h7⟩
  · exact .inl h4
  · exact .inr ⟨b, o, h5, Nat.lt_of_lt_of_le h6 hb.size, fun i u hu => (hb.cell (p := ⟨b, o + i, none⟩) (Nat.lt_of_lt_of_le h6 hB)).trans (h7 i u hu)⟩

theorem Flds.below {w w' : World} {a : Option Addr} {len cap B : Nat} {f : Nat → ByteArray × ByteArray} (h : Flds w a len cap f) (hb : Below B w w') (hB : w.heap.size ≤ B) : Flds w' a len cap f := by
  obtain ⟨h2, h3, h4⟩ := h
  refine ⟨h2, h3, ?_⟩
  rcases h4 with h4 | ⟨b, o, h5, h6, h7⟩
  · exact .inl h4
  · exact .inr ⟨b, o, h5, Nat.lt_of_lt_of_le h6 hb.size, fun i hi => ⟨(hb.cell (p := ⟨b, _, none⟩) (Nat.lt_of_lt_of_le h6 hB)).trans (h7 i hi).1, (hb.cell (p := ⟨b, _, none⟩) (Nat.lt_of_lt_of_le h6 hB)).trans (h7 i hi).2⟩⟩

theorem same_any (a b : Option Addr) (len c1 c2 : Nat) (l : List ByteArray) (w : World) (ha : Strs w a len c1 l) (hb : Strs w b len c2 l) :
    Calls Try.prog 10 #[.slice a len c1, .slice b len c2] w fun e w' => e = .returned (.bool true) ∧ Below w.heap.size w w' := by
  obtain ⟨hl, h1, h2, ha⟩ := ha
  obtain ⟨_, h3, h4, hb⟩ := hb
  unfold maxLen at h2 h4
  by_cases h0 : len = 0
  · subst h0
    clear ha hb
    go_enter Try.func10, Try.ntmps10
    go_wp2
    refine wp_loop_rounds 1 ?_
    rw [rounds_succ]
    go_wp2
    go_ret
    exact ⟨rfl, Below.refl _ _⟩
  obtain ⟨b1, o1, rfl, hs1, hc1⟩ := ha.resolve_left (fun h => h0 h.1)
  obtain ⟨b2, o2, rfl, hs2, hc2⟩ := hb.resolve_left (fun h => h0 h.1)
  have HA : Hid (_) := hc1
  have HB : Hid (_) := hc2
  have HS1 : Hid (_) := hs1
  have HS2 : Hid (_) := hs2
  clear ha hb hc1 hc2 hs1 hs2
  go_enter Try.func10, Try.ntmps10
  go_wp2
  go_loopw [5] (fun i wr => ∃ q : Nat, q ≤ len ∧ i = .int .i64 q ∧ Hid (Below w.heap.size w wr)) (fun i _ => len - (intOf i).toNat)
  case atStart => exact ⟨0, Nat.zero_le _, rfl, Below.refl _ _⟩
  case round =>
    obtain ⟨q, hq, rfl, HW⟩ := hrel
    by_cases hlt : q < len
    · obtain ⟨u, hu⟩ : ∃ u, l[q]? = some u := ⟨l[q]'(by omega), List.getElem?_eq_getElem (by omega)⟩
      have k1 := (HW.out.cell (p := ⟨b1, o1 + q, none⟩) HS1.out).trans (HA.out q u hu)
      have k2 := (HW.out.cell (p := ⟨b2, o2 + q, none⟩) HS2.out).trans (HB.out q u hu)
      clear hu
      go_wp2
      go_quiet (fail)
      go_wp2
      go_roundw
      case rel => exact ⟨q + 1, by omega, by go_num, below_drewN HW.out _⟩
      case measure => simp [intOf]; omega
    · go_wp2
      go_ret
      exact ⟨rfl, HW.out⟩

theorem strs_row {w : World} {b n : Nat} {l : List ByteArray} (h : w.rowIs b 9 n (fun i => .string (l.getD i ⟨#[]⟩))) (hl : l.length = n) (hn : n ≤ maxLen) : Strs w (some ⟨b, 0, none⟩) n n l := by
  refine ⟨hl, Nat.le_refl _, hn, .inr ⟨b, 0, rfl, h.lt, fun i u hu => ?_⟩⟩
  obtain ⟨hi, rfl⟩ := List.getElem?_eq_some_iff.1 hu
  have := h.cell (i := i) (by omega)
  simpa [List.getD, List.getElem?_eq_getElem hi] using this

theorem size9 : (Try.prog.info? 9).map (·.size) = some 1 := by kernel_rfl

/-- copy of strings at the head of a made row, whose cells further on stay -/
theorem copy_run (x : Addr) (b o n m : Nat) (w : World) (n1 c1 : Nat) (l : List ByteArray) (cur : Nat → Value) (hl : l.length = n1) (hn : o + n1 ≤ m) (hrow : w.rowIs b 9 m cur) (hnn : n1 ≤ n)
    (hc : ∀ i u, l[i]? = some u → w.cell? (x.add i) = some (.string u)) :
    ∃ w2, (Builtin.copy_ #[23, 23] 3 #[.slice (some ⟨b, o, none⟩) n n, .slice (some x) n1 c1]).run Try.prog w = .ok (goInt n1) w2 ∧
      w2.rowIs b 9 m (fun i => if o ≤ i ∧ i < o + n1 then .string (l.getD (i - o) ⟨#[]⟩) else cur i) ∧ (∀ B, B ≤ b → Below B w w2) ∧ w2.heap.size = w.heap.size := by
  obtain ⟨cs, hg, hsz, hcs⟩ := hrow
  have hrun := run_copy_row (P := Try.prog) w 23 23 3 9 b o n n x n1 c1 cs 9 (l.map .string)
    Try.underlying23 size9 hg (by rw [List.length_map, hl]; exact (Nat.min_eq_left hnn).symm)
    (by
      intro j v h
      rw [List.getElem?_map] at h
      obtain ⟨u, hu, rfl⟩ := Option.map_eq_some_iff.1 h
      exact hc j u hu)
    (by simp [hl, hsz]; omega)
    (by
      intro v hv
      obtain ⟨i, _, rfl⟩ := List.mem_map.1 hv
      rfl)
  simp only [List.length_map, hl] at hrun
  refine ⟨_, hrun, ?_, ?_, ?_⟩
  · refine ⟨_, setRow_heap _ _ _ _ _ _ hg, ?_, ?_⟩
    · simp [hsz, hl]; omega
    · intro i hi
      simp only [List.getElem?_toArray]
      have lt : (List.take o cs.toList).length = o := by simp [hsz]; omega
      by_cases h1 : i < o
      · rw [List.append_assoc, List.getElem?_append_left (by omega), List.getElem?_take_of_lt h1, if_neg (by omega)]
        simpa using hcs i hi
      · by_cases h2 : i < o + n1
        · rw [List.getElem?_append_left (by simp [hsz, hl]; omega), List.getElem?_append_right (by omega), lt, List.getElem?_map, if_pos ⟨by omega, h2⟩, List.getElem?_eq_getElem (by omega)]
          simp [List.getD, List.getElem?_eq_getElem (show i - o < l.length by omega)]
        · rw [List.getElem?_append_right (by simp [hsz, hl]; omega), if_neg (by omega), List.getElem?_drop]
          have e : o + n1 + (i - (List.take o cs.toList ++ List.map Value.string l).length) = i := by simp [hsz, hl]; omega
          rw [e]
          simpa using hcs i hi
  · intro B hB
    exact below_setRow (Below.refl _ _) hB _
  · simp [World.setRow]

theorem copy0 (d a : Option Addr) (n c cap : Nat) (w : World) : (Builtin.copy_ #[23, 23] 3 #[.slice d n c, .slice a 0 cap]).run Try.prog w = .ok (goInt 0) w := by
  have hs := size9
  cases hq : Try.prog.info? 9 with
  | none => simp [hq] at hs
  | some i =>
    have hi : i.size = 1 := by simpa [hq] using hs
    have hm : Nat.min 0 n = 0 := Nat.zero_min n
    cases a <;> cases d <;> simp [Builtin.copy_, run_underlying Try.underlying23, Builtin.lenOf, Builtin.firstCells, sizeOf, typeInfo, hq, hm, loadCells, loadCellsFrom, storeCells]

/-- the copy of any slice of strings to the head of a row -/
theorem copy_any (b o n m : Nat) (w : World) (a : Option Addr) (n1 c1 : Nat) (l : List ByteArray) (cur : Nat → Value) (hs : Strs w a n1 c1 l) (hn : o + n1 ≤ m) (hrow : w.rowIs b 9 m cur) (hnn : n1 ≤ n) :
    ∃ w2, (Builtin.copy_ #[23, 23] 3 #[.slice (some ⟨b, o, none⟩) n n, .slice a n1 c1]).run Try.prog w = .ok (goInt n1) w2 ∧
      w2.rowIs b 9 m (fun i => if o ≤ i ∧ i < o + n1 then .string (l.getD (i - o) ⟨#[]⟩) else cur i) ∧ (∀ B, B ≤ b → Below B w w2) ∧ w2.heap.size = w.heap.size := by
  obtain ⟨hl, h1, h2, hs⟩ := hs
  by_cases h0 : n1 = 0
  · subst h0
    exact ⟨w, copy0 _ _ _ _ _ _, hrow.congr (fun i hi => by rw [if_neg (by omega)]), fun B _ => Below.refl _ _, rfl⟩
  · obtain ⟨b1, o1, rfl, hs1, hc1⟩ := hs.resolve_left (fun h => h0 h.1)
    exact copy_run ⟨b1, o1, none⟩ b o n m w n1 c1 l cur hl hn hrow hnn (fun i u hu => by rw [Addr.add_lit]; exact hc1 i u hu)

theorem clone_strs (a : Option Addr) (len cap : Nat) (l : List ByteArray) (w : World) (hs : Strs w a len cap l) (hb : len ≤ 1048576) :
    Calls Try.prog 7 #[.slice a len cap] w fun e w' => ∃ a' c', e = .returned (.slice a' len c') ∧ Strs w' a' len c' l ∧ Below w.heap.size w w' := by
  cases a with
  | none =>
    obtain ⟨hl, h1, h2, hs⟩ := hs
    rcases hs with ⟨rfl, h⟩ | ⟨b, o, h, _⟩
    · obtain rfl := h rfl
      have hnil := fun w => Go.Lib.run_eql_slice_nil (P := Try.prog) w 23 9 none 0 0 0 0 Try.underlying23
      go_enter Try.func7, Try.ntmps7
      go_wp2
      go_ret
      exact ⟨_, _, rfl, ⟨hl, h1, h2, .inl ⟨rfl, fun _ => rfl⟩⟩, Below.refl _ _⟩
    · cases h
  | some x =>
    have hmk := fun w => run_make_row' (P := Try.prog) 23 9 (.string ⟨#[]⟩) 16 Try.underlying23 info9 rfl .i64 .i64 len (by omega) (by omega) w
    have HR : Hid ((w.alloc (.cells (madeCells #[.string ⟨#[]⟩] len) 9)).rowIs w.heap.size 9 len (fun _ => .string ⟨#[]⟩)) := World.rowIs_made w _ _ 9
    have HB : Hid (Below w.heap.size w (w.alloc (.cells (madeCells #[.string ⟨#[]⟩] len) 9))) := (Below.refl _ _).alloc (Nat.le_refl _) _
    obtain ⟨w2, hcp, hrow, hbel, hsz⟩ := copy_any w.heap.size 0 len len _ (some x) len cap l _ (hs.below HB.out (Nat.le_refl _)) (by omega) HR.out (Nat.le_refl _)
    have HRW : Hid (_) := hrow
    have HBL : Hid (_) := hbel
    have HS : Hid (_) := hs
    have hnil := fun w => Go.Lib.run_eql_slice_nil (P := Try.prog) w 23 9 (some x) len cap 0 0 Try.underlying23
    clear hs hrow hbel
    go_enter Try.func7, Try.ntmps7
    go_wp2
    go_ret
    refine ⟨_, _, rfl, strs_row (World.rowIs.congr HRW.out ?_) HS.out.1 (by unfold maxLen; omega), HB.out.trans (HBL.out _ (Nat.le_refl _))⟩
    intro i hi
    simp [hi]

theorem join_any (a b : Option Addr) (n1 n2 c1 c2 : Nat) (l1 l2 : List ByteArray) (w : World) (h1 : Strs w a n1 c1 l1) (h2 : Strs w b n2 c2 l2) (hb1 : n1 ≤ 4194304) (hb2 : n2 ≤ 4194304) :
    Calls Try.prog 11 #[.slice a n1 c1, .slice b n2 c2] w fun e w' => ∃ x, e = .returned (.slice (some x) (n1 + n2) (n1 + n2)) ∧ Strs w' (some x) (n1 + n2) (n1 + n2) (l1 ++ l2) ∧ Below w.heap.size w w' := by
  obtain ⟨m, hm⟩ : ∃ m, m = n1 + n2 := ⟨_, rfl⟩
  rw [← hm]
  have hmk := fun w => run_make_row' (P := Try.prog) 23 9 (.string ⟨#[]⟩) 16 Try.underlying23 info9 rfl .i64 .i64 m (by omega) (by omega) w
  have HR : Hid ((w.alloc (.cells (madeCells #[.string ⟨#[]⟩] m) 9)).rowIs w.heap.size 9 m (fun _ => .string ⟨#[]⟩)) := World.rowIs_made w _ _ 9
  have HB : Hid (Below w.heap.size w (w.alloc (.cells (madeCells #[.string ⟨#[]⟩] m) 9))) := (Below.refl _ _).alloc (Nat.le_refl _) _
  obtain ⟨w2, hcp, hrow, hbel, hsz⟩ := copy_any w.heap.size 0 m m _ a n1 c1 l1 _ (h1.below HB.out (Nat.le_refl _)) (by omega) HR.out (by omega)
  have HM : Hid (_) := hm
  have HL1 : Hid (l1.length = n1) := h1.1
  have HL2 : Hid (l2.length = n2) := h2.1
  have e1 : (n1 : Int) + (n2 : Int) = (m : Int) := by omega
  have b1 : n1 ≤ m := by omega
  by_cases hn2 : n2 = 0
  · subst hn2
    obtain rfl : m = n1 := by omega
    have hcp2 := fun d w => copy0 d b 0 0 c2 w
    have HRW : Hid (_) := hrow
    have HBL : Hid (Below w.heap.size w w2) := HB.out.trans (hbel _ (Nat.le_refl _))
    clear hrow hbel hsz h1 h2 hm HR HB e1
    go_enter Try.func11, Try.ntmps11
    go_wp2
    go_ret
    refine ⟨_, rfl, strs_row (World.rowIs.congr HRW.out ?_) (by simp [HL1.out, HL2.out]) (by unfold maxLen; omega), HBL.out⟩
    intro i hi
    have : i < l1.length := by have := HL1.out; omega
    simp [hi, List.getD, List.getElem?_append_left this]
  · obtain ⟨w3, hcp2, hrow2, hbel2, hsz2⟩ := copy_any w.heap.size n1 (m - n1) m _ b n2 c2 l2 _ (h2.below (HB.out.trans (hbel _ (Nat.le_refl _))) (Nat.le_refl _)) (by omega) hrow (by omega)
    have HRW : Hid (_) := hrow2
    have HBL : Hid (Below w.heap.size w w3) := HB.out.trans ((hbel _ (Nat.le_refl _)).trans (hbel2 _ (Nat.le_refl _)))
    have hne : ¬ m = n1 := by omega
    clear hrow hrow2 hbel hbel2 hsz hsz2 h1 h2 hm HR HB
    go_enter Try.func11, Try.ntmps11
    go_wp2
    go_ret
    refine ⟨_, rfl, strs_row (World.rowIs.congr HRW.out ?_) (by simp [HL1.out, HL2.out, HM.out]) (by unfold maxLen; omega), HBL.out⟩
    intro i hi
    have q1 := HL1.out
    have q2 := HL2.out
    have q3 := HM.out
    by_cases hlt : i < n1
    · rw [if_neg (by omega), if_pos (by omega)]
      simp [List.getD, List.getElem?_append_left (show i < l1.length by omega)]
    · rw [if_pos (by omega)]
      simp [List.getD, List.getElem?_append_right (show l1.length ≤ i by omega), q1]
end Go.Proofs.Qxb6618614a.Vals
