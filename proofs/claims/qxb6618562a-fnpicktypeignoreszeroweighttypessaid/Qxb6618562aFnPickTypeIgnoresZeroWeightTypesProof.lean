/- The proof of FnPickTypeIgnoresZeroWeightTypesSaid. -/
import Derived.Test.Qxb6618562aClone
import Derived.Test.Qxb6618562aIgn
import Derived.OpenShut
import Derived.ChangeOld
namespace Go.Proofs.Qxb6618562a.fnPickTypeIgnoresZeroWeightTypes
open Go.ChangeShapes Go.WideShapes Go.ChangeAt Go.RowKit
set_option linter.unusedVariables false

theorem own : ownKnob Try.prog.godebug = none := by kernel_rfl
theorem laidOut : laidOutB Try.prog = true := by kernel_rfl

theorem run_store_float (P : Program) (w : World) (a : Addr) (m : Mode) (k : FloatKind) (x : Nat) : (store a (.float k x) m).run P w = stored P w a (.float k x) m := run_store P w a _ m rfl
attribute [local go_sem] run_store_float

theorem bytes_any (a : Option Addr) (len cap : Nat) (k s1 s2 : Int) (w : World) (h : len ≤ maxLen) :
    Calls Try.prog 16 #[.slice a len cap, .int .i64 k, .int .u64 s1, .int .u64 s2] w fun e w' => ∃ b, e = .returned (.bool b) ∧ w = w' := by
  unfold maxLen at h
  go_enter Try.func16, Try.ntmps16
  go_wp2
  all_goals
    go_ret
    exact ⟨_, rfl, rfl⟩

/-- Is one of the first k weights positive? -/
def posTo (ws : Nat → Nat) : Nat → Bool
  | 0 => false
  | k + 1 => posTo ws k || Fl.gt0 (ws k)
theorem posTo_some (ws : Nat → Nat) (n : Nat) (h : posTo ws n = true) : ∃ j, j < n ∧ Fl.gt0 (ws j) = true := by
  induction n with
  | zero => cases h
  | succ n ih =>
    simp only [posTo, Bool.or_eq_true] at h
    rcases h with h | h
    · obtain ⟨j, hj, hg⟩ := ih h; exact ⟨j, by omega, hg⟩
    · exact ⟨n, by omega, h⟩

set_option maxRecDepth 100000 in
set_option maxHeartbeats 2000000 in
theorem walk_main (x : Addr) (n cap : Nat) (ws : Nat → Nat) (k : Nat) (s1 s2 : Int) (w : World) (hn : n ≤ 65536) (hk : k ≤ n)
    (hc : ∀ i, i < n → w.cell? (x.add i) = some (.float .f64 (ws i))) (hb : ∀ i, i < n → ws i < 18446744073709551616) (hs1 : Pcg.Word s1) (hs2 : Pcg.Word s2) :
    Calls Try.prog 6 #[.slice (some x) n cap, .int .i64 k, .int .u64 s1, .int .u64 s2] w fun e w' => e = .returned (.bool true) ∧ Below w.heap.size w w' := by
  have HB : Hid (_) := fun w => bytes_any (some x) n cap k s1 s2 w (by unfold maxLen; omega)
  have hmk := fun w => run_make_row' (P := Try.prog) 29 22 (.float .f64 0) 8 Try.underlying29 Src.info22 rfl .i64 .i64 n (by omega) (by omega) w
  have hnil := fun w => run_neq_slice_nil_any (P := Try.prog) w 29 22 (some x) n cap 0 0 Try.underlying29
  obtain ⟨w2, hcp, hrow, hbel, hsz⟩ := Src.clone_run x n cap ws w hc
  have HR : Hid (_) := hrow
  have HBL : Hid (_) := hbel
  have HSZ : Hid (_) := hsz
  have HS1 : Hid (_) := hs1
  have HS2 : Hid (_) := hs2
  have HBD : Hid (_) := hb
  have d1 : decide (65536 < (n : Int)) = false := by simp; omega
  have d2 : decide ((k : Int) < 0) = false := by simp
  have d3 : decide (n < k) = false := by simp; omega
  clear hc hrow hbel hsz hs1 hs2 hb
  go_enter Try.func6, Try.ntmps6
  go_wp2_with fail
  refine Calls.mono (HB.out _) ?_
  rintro e w' ⟨b, rfl, rfl⟩
  cases b
  · clear hcp hmk hnil
    go_wp2
    go_ret
    exact ⟨rfl, Below.refl _ _⟩
  clear HB
  go_wp2
  clear hcp hmk hnil
  go_loop [10, 11] (fun p i => ∃ q : Nat, q ≤ n ∧ i = .int .i64 q ∧ p = .bool (posTo ws q) ∧ Hid (∀ j, j < q → Fl.ge0 (ws j) = true)) (fun _ i => n - (intOf i).toNat)
  case atStart => exact ⟨0, Nat.zero_le _, rfl, rfl, fun j hj => absurd hj (Nat.not_lt_zero _)⟩
  case round =>
    obtain ⟨q, hq, rfl, rfl, HG⟩ := hrel
    by_cases hlt : q < n
    · have hcell : w2.cell? ⟨w.heap.size, q, none⟩ = some (.float .f64 (ws q)) := (show World.rowIs _ _ _ _ _ from HR.out).cell hlt
      cases t1 : (FloatKind.f64.format.order (ws q) 0 == some Ordering.gt || FloatKind.f64.format.order (ws q) 0 == some Ordering.eq)
      · go_wp2
        go_ret
        exact ⟨rfl, HBL.out⟩
      · have HG2 : Hid (∀ j, j < q + 1 → Fl.ge0 (ws j) = true) := fun j hj => by
          rcases Nat.lt_succ_iff_lt_or_eq.1 hj with h | rfl
          · exact HG.out j h
          · exact t1
        cases t2 : (FloatKind.f64.format.order (ws q) 0 == some Ordering.gt)
        · have HP : Hid (posTo ws (q + 1) = posTo ws q) := by
            show (posTo ws q || Fl.gt0 (ws q)) = _
            rw [show Fl.gt0 (ws q) = false from t2, Bool.or_false]
          have t3 : (FloatKind.f64.format.order (ws q) 0 == some Ordering.eq) = true := by rw [t2, Bool.false_or] at t1; exact t1
          go_wp2
          go_round
          case rel => exact ⟨q + 1, by omega, by go_num, by rw [HP.out], HG2.out⟩
          case measure => simp [intOf]; omega
        · have HP : Hid (posTo ws (q + 1) = true) := by
            show (posTo ws q || Fl.gt0 (ws q)) = _
            rw [show Fl.gt0 (ws q) = true from t2, Bool.or_true]
          go_wp2
          go_round
          case rel => exact ⟨q + 1, by omega, by go_num, by rw [HP.out], HG2.out⟩
          case measure => simp [intOf]; omega
    · obtain rfl : q = n := by omega
      cases hp : posTo ws q
      · go_wp2
        go_ret
        exact ⟨rfl, HBL.out⟩
      have HPN : Hid (∀ j, j < q → ∃ r, Fl.NN (ws j) r) := fun j hj => Fl.ge_zero (HBD.out j hj) (HG.out j hj)
      have HPO : Hid (∃ j, j < q ∧ Fl.zeroW (ws j) = false) := by
        obtain ⟨j, hj, hg⟩ := posTo_some ws q hp
        exact ⟨j, hj, Fl.nonzero_of_gt hg⟩
      have hmk2 := fun w => run_make_row' (P := Try.prog) 29 22 (.float .f64 0) 8 Try.underlying29 Src.info22 rfl .i64 .i64 (q + 1) (by omega) (by omega) w
      have ec : ((q + 1 : Nat) : Int) = (q : Int) + 1 := by omega
      rw [ec] at hmk2
      clear ec
      go_wp2
      clear hmk2
      have HR2 : Hid ((w2.alloc (.cells (madeCells #[.float .f64 0] (q + 1)) 22)).rowIs w2.heap.size 22 (q + 1) (fun _ => .float .f64 0)) := World.rowIs_made w2 _ _ 22
      go_loopw [14] (fun i wr => ∃ p : Nat, p ≤ q + 1 ∧ i = .int .i64 p ∧ Hid (wr.heap.size = w2.heap.size + 1) ∧ Hid (wr.rowIs w2.heap.size 22 (q + 1) (fun j => if j < p then .float .f64 (Fl.ins ws k j) else .float .f64 0)) ∧ Hid (Below w2.heap.size w2 wr)) (fun i _ => q + 1 - (intOf i).toNat)
      case atStart => exact ⟨0, Nat.zero_le _, rfl, by simp [Hid], (show World.rowIs _ _ _ _ _ from HR2.out).congr (fun _ _ => by simp), (Below.refl _ _).alloc (Nat.le_refl _) _⟩
      case round =>
        obtain ⟨p, hp1, rfl, HZ, HW, HBW⟩ := hrel
        have hb1 : w.heap.size < w2.heap.size := by rw [HSZ.out]; omega
        have hold : ∀ j, j < q → wr.cell? ⟨w.heap.size, j, none⟩ = some (.float .f64 (ws j)) := fun j hj => by
          rw [HBW.out.cell (p := ⟨w.heap.size, j, none⟩) hb1]
          exact (show World.rowIs _ _ _ _ _ from HR.out).cell hj
        by_cases hlt : p < q + 1
        · obtain ⟨v, hv⟩ : ∃ v, wr.cell? ⟨w2.heap.size, p, none⟩ = some v := ⟨_, HW.out.cell hlt⟩
          have hf := HW.out.frozen p
          by_cases e1 : p < k
          · have hc1 := hold p (by omega)
            clear hold
            go_wp2
            go_roundw
            case rel =>
              go_light
              refine ⟨p + 1, by omega, by go_num, ?_, ?_, ?_⟩
              · show _ = _
                simp [World.setCell]; exact HZ.out
              · refine (HW.out.set p _).congr ?_
                intro j hj
                by_cases e : j = p
                · subst e; simp [Fl.ins, e1]
                · by_cases e2 : j < p
                  · simp [e, e2]; omega
                  · have : ¬ j < p + 1 := by omega
                    simp [e, e2, this]
              · exact HBW.out.setCell (by simp) _
            case measure => go_light; simp [intOf]; omega
          · by_cases e2 : k < p
            · have hc1 := hold (p - 1) (by omega)
              have ei : (p : Int) - 1 = ((p - 1 : Nat) : Int) := by omega
              clear hold
              go_wp2
              go_roundw
              case rel =>
                go_light
                refine ⟨p + 1, by omega, by go_num, ?_, ?_, ?_⟩
                · show _ = _
                  simp [World.setCell]; exact HZ.out
                · refine (HW.out.set p _).congr ?_
                  intro j hj
                  by_cases e : j = p
                  · subst e; simp [Fl.ins, e1, e2]
                  · by_cases e3 : j < p
                    · simp [e, e3]; omega
                    · have : ¬ j < p + 1 := by omega
                      simp [e, e3, this]
                · exact HBW.out.setCell (by simp) _
              case measure => go_light; simp [intOf]; omega
            · clear hold
              go_wp2
              go_roundw
              case rel =>
                go_light
                refine ⟨p + 1, by omega, by go_num, HZ.out, ?_, HBW.out⟩
                refine HW.out.congr ?_
                intro j hj
                by_cases e : j = p
                · subst e; simp [Fl.ins, e1, e2]
                · by_cases e3 : j < p
                  · simp [e3]; omega
                  · have : ¬ j < p + 1 := by omega
                    simp [e3, this]
              case measure => go_light; simp [intOf]; omega
        · obtain rfl : p = q + 1 := by omega
          have HI : Hid (∀ j, j < q + 1 → wr.cell? ⟨w2.heap.size, j, none⟩ = some (.float .f64 (Fl.ins ws k j))) := fun j hj => by
            rw [HW.out.cell hj]; simp [hj]
          have HO : Hid (_) := hold
          have HBW2 : Hid (Below w.heap.size w wr) := HBL.out.trans (HBW.out.mono (Nat.le_of_lt hb1))
          have hb2 : Hid (w2.heap.size < wr.heap.size) := by show _ < _; rw [HZ.out]; omega
          clear hold
          go_wp2
          clear HR HR2 HBL HW HBW
          go_loop [15, 16] (fun t i => ∃ p : Nat, p ≤ q ∧ i = .int .i64 p ∧ t = .float .f64 (Fl.sumTo ws p)) (fun _ i => q - (intOf i).toNat)
          case atStart => exact ⟨0, Nat.zero_le _, rfl, rfl⟩
          case round =>
            obtain ⟨p, hp1, rfl, rfl⟩ := hrel
            by_cases hlt : p < q
            · have hc1 := HO.out p hlt
              have hst := Fl.sumTo_step ws p (fun j hj => HPN.out j (by omega))
              have ra := fun w => run_float_arith (P := Try.prog) w .add 22 .f64 (Fl.sumTo ws p) (ws p) (Fl.sumTo ws (p + 1)) hst
              clear hst
              go_wp2
              go_round
              case rel => exact ⟨p + 1, by omega, by go_num, rfl⟩
              case measure => simp [intOf]; omega
            · obtain rfl : p = q := by omega
              go_wp2
              go_loop [17, 18] (fun t i => ∃ m : Nat, m ≤ p + 1 ∧ i = .int .i64 m ∧ t = .float .f64 (Fl.sumTo (Fl.ins ws k) m)) (fun _ i => p + 1 - (intOf i).toNat)
              case atStart => exact ⟨0, Nat.zero_le _, rfl, rfl⟩
              case round =>
                obtain ⟨m, hm1, rfl, rfl⟩ := hrel
                by_cases hlt2 : m < p + 1
                · have hc1 := HI.out m hlt2
                  have hst := Fl.sumTo_step (Fl.ins ws k) m (fun j hj => Fl.ins_NN ws p k hk HPN.out j (by omega))
                  have ra := fun w => run_float_arith (P := Try.prog) w .add 22 .f64 (Fl.sumTo (Fl.ins ws k) m) (Fl.ins ws k m) (Fl.sumTo (Fl.ins ws k) (m + 1)) hst
                  clear hst
                  go_wp2
                  go_round
                  case rel => exact ⟨m + 1, by omega, by go_num, rfl⟩
                  case measure => simp [intOf]; omega
                · obtain rfl : m = p + 1 := by omega
                  have HS := Fl.sum_ins ws p k hk HPN.out
                  rw [HS]
                  clear HS
                  obtain ⟨F, hF⟩ := Fl.div_some (Pcg.k53 s1 s2) (Pcg.k53_bd s1 s2).1 (Pcg.k53_bd s1 s2).2
                  have HF : Hid (_) := hF
                  obtain ⟨g1, g2, g3⟩ := Fl.ignores ws p k hk (Ieee.double.mul F (Fl.sumTo ws p)) HPO.out
                  obtain ⟨J, hJ⟩ : ∃ J, J = Fl.pick (Ieee.double.mul F (Fl.sumTo ws p)) ((List.range p).map ws) 0 0 := ⟨_, rfl⟩
                  have HJ : Hid (_) := hJ
                  rw [← hJ] at g1 g2 g3
                  have HG1 : Hid (_) := g1
                  have HG3 : Hid (Fl.gt0 (ws J) = true) := Fl.gt_of_nonzero (HG.out J g2) g3
                  obtain ⟨T, hT⟩ : ∃ T, T = Fl.sumTo ws p := ⟨_, rfl⟩
                  rw [← hT]
                  have HT : Hid (_) := hT
                  clear hF g1 g3 hJ hT
                  go_wp2_with fail
                  refine (Src.newSource w.heap.size p ws T s1 s2 _ (by omega) (by have := hb2.out; omega) (fun i hi => HO.out i hi)).mono ?_
                  rintro e w3 ⟨rfl, hs3, hb3⟩
                  have HS3 : Hid (_) := hs3
                  have HB3 : Hid (_) := hb3
                  clear hs3 hb3
                  have z3 : wr.heap.size + 1 + p + 4 < w3.heap.size := HS3.out.size
                  have z1 : w.heap.size < w2.heap.size := by rw [HSZ.out]; omega
                  have z2 : w2.heap.size < wr.heap.size := hb2.out
                  have HI3 : Hid (∀ j, j < p + 1 → w3.cell? ⟨w2.heap.size, j, none⟩ = some (.float .f64 (Fl.ins ws k j))) := fun j hj => by
                    rw [HB3.out.cell (p := ⟨w2.heap.size, j, none⟩) z2]; exact HI.out j hj
                  go_wp2_with fail
                  refine (Src.newSource w2.heap.size (p + 1) (Fl.ins ws k) T s1 s2 _ (by omega) (by omega) (fun i hi => HI3.out i hi)).mono ?_
                  rintro e w4 ⟨rfl, hs4, hb4⟩
                  have HS4 : Hid (_) := hs4
                  have HB4 : Hid (_) := hb4
                  have HS34 : Hid (_) := HS3.out.below hb4 (by omega)
                  clear hs4 hb4
                  go_wp2_with fail
                  refine (Src.pickType wr.heap.size p ws T F s1 s2 _ (by omega) (by omega) HS1.out HS2.out HS34.out HF.out).mono ?_
                  rintro e w5 ⟨rfl, ho5⟩
                  have HO5 : Hid (_) := ho5
                  have HS45 : Hid (_) := HS4.out.only ho5 (by omega)
                  clear ho5
                  rw [HT.out, ← HJ.out]
                  go_wp2_with fail
                  refine (Src.pickType w3.heap.size (p + 1) (Fl.ins ws k) T F s1 s2 _ (by omega) (by omega) HS1.out HS2.out HS45.out HF.out).mono ?_
                  rintro e w6 ⟨rfl, ho6⟩
                  rw [HT.out, HG1.out]
                  have HV1 : Hid (Src.View w6 wr.heap.size p) := (HS34.out.view HO5.out).only ho6 (by omega)
                  have HV2 : Hid (Src.View w6 w3.heap.size (p + 1)) := HS45.out.view ho6
                  have cJ : w6.cell? ⟨w.heap.size, J, none⟩ = some (.float .f64 (ws J)) := by
                    rw [ho6.cell (show w.heap.size ≠ _ from by omega), HO5.out.cell (show w.heap.size ≠ _ from by omega), HB4.out.cell (p := ⟨w.heap.size, J, none⟩) (show w.heap.size < w3.heap.size from by omega), HB3.out.cell (p := ⟨w.heap.size, J, none⟩) (show w.heap.size < wr.heap.size from by omega)]
                    exact HO.out J g2
                  have HFIN : Hid (Below w.heap.size w w6) := HBW2.out.trans ((HB3.out.mono (by omega)).trans ((HB4.out.mono (by omega)).trans ((HO5.out.below (by omega)).trans (ho6.below (by omega)))))
                  clear HS45 HS34 HS4 HS3 HB3 HB4 HO5 ho6 HI3 HI HO HBW2 HF HG1 HJ HT HPN HPO HG HBD HS1 HS2 HZ
                  obtain ⟨J2, hJ2⟩ : ∃ J2, J2 = Fl.shift k J := ⟨_, rfl⟩
                  rw [← hJ2]
                  have lJ2 : J2 < p + 1 := by rw [hJ2]; unfold Fl.shift; split <;> omega
                  have HJ2 : Hid (_) := hJ2
                  clear hJ2 hlt hlt2
                  go_wp2
                  go_loopw [23, 24] (fun r i wx => ∃ m : Nat, m ≤ J ∧ i = .int .i64 m ∧ r = .int .i64 (-1) ∧ w6 = wx) (fun _ i _ => J - (intOf i).toNat)
                  case atStart => exact ⟨0, Nat.zero_le _, rfl, rfl, rfl⟩
                  case round =>
                    obtain ⟨m, hm, rfl, rfl, rfl⟩ := hrel
                    by_cases hlt : m < J
                    · have he := Src.eq_other HV1.out (show m < p by omega) g2 (show m ≠ J by omega)
                      go_wp2_with (go_at_call 15; refine (Src.sourceType wr.heap.size p m ws T _ (by omega) HV1.out.src0 HV1.out.types8 (HV1.out.types m (by omega))).mono ?_; rintro e w' ⟨rfl, hw'⟩; obtain rfl := hw'.symm)
                      go_roundw
                      case rel => exact ⟨m + 1, by omega, by go_num, rfl, trivial⟩
                      case measure => simp [intOf]; omega
                    · obtain rfl : m = J := by omega
                      have he := Src.eq_same (wr.heap.size + 1 + m) w6
                      go_wp2_with (go_at_call 15; refine (Src.sourceType wr.heap.size p m ws T _ (by omega) HV1.out.src0 HV1.out.types8 (HV1.out.types m (by omega))).mono ?_; rintro e w' ⟨rfl, hw'⟩; obtain rfl := hw'.symm)
                      clear he HV1 hlt hm
                      go_loopw [25, 26] (fun r i wx => ∃ l : Nat, l ≤ J2 ∧ i = .int .i64 l ∧ r = .int .i64 (-1) ∧ w6 = wx) (fun _ i _ => J2 - (intOf i).toNat)
                      case atStart => exact ⟨0, Nat.zero_le _, rfl, rfl, rfl⟩
                      case round =>
                        obtain ⟨l, hl, rfl, rfl, rfl⟩ := hrel
                        by_cases hlt : l < J2
                        · have he := Src.eq_other HV2.out (show l < p + 1 by omega) lJ2 (show l ≠ J2 by omega)
                          go_wp2_with (go_at_call 15; refine (Src.sourceType w3.heap.size (p + 1) l ws T _ (by omega) HV2.out.src0 HV2.out.types8 (HV2.out.types l (by omega))).mono ?_; rintro e w' ⟨rfl, hw'⟩; obtain rfl := hw'.symm)
                          go_roundw
                          case rel => exact ⟨l + 1, by omega, by go_num, rfl, trivial⟩
                          case measure => simp [intOf]; omega
                        · obtain rfl : l = J2 := by omega
                          have he := Src.eq_same (w3.heap.size + 1 + l) w6
                          have hg : (FloatKind.f64.format.order (ws m) 0 == some Ordering.gt) = true := HG3.out
                          by_cases hkm : k ≤ m
                          · have e2 : ((l : Int) == (m : Int) + 1) = true := by
                              have := HJ2.out
                              unfold Fl.shift at this
                              rw [if_pos hkm] at this
                              simp; omega
                            go_wp2_with (go_at_call 15; refine (Src.sourceType w3.heap.size (p + 1) l ws T _ (by omega) HV2.out.src0 HV2.out.types8 (HV2.out.types l (by omega))).mono ?_; rintro e w' ⟨rfl, hw'⟩; obtain rfl := hw'.symm)
                            go_ret
                            exact ⟨rfl, HFIN.out⟩
                          · have e2 : ((l : Int) == (m : Int)) = true := by
                              have := HJ2.out
                              unfold Fl.shift at this
                              rw [if_neg hkm] at this
                              simp; omega
                            go_wp2_with (go_at_call 15; refine (Src.sourceType w3.heap.size (p + 1) l ws T _ (by omega) HV2.out.src0 HV2.out.types8 (HV2.out.types l (by omega))).mono ?_; rintro e w' ⟨rfl, hw'⟩; obtain rfl := hw'.symm)
                            go_ret
                            exact ⟨rfl, HFIN.out⟩

theorem word_of {s : Int} (h : (Lit.int .u64 s).wf = true) : Pcg.Word s := by
  have := bounds_u64 h
  unfold Pcg.Word; omega

set_option maxRecDepth 100000 in
set_option maxHeartbeats 2000000 in
theorem walk (a : Option Addr) (len cap : Nat) (ws : Nat → Nat) (k s1 s2 : Int) (w : World) (w0 : Src.IsFloats w a len cap ws) (w2 : (Lit.int .u64 s1).wf = true) (w3 : (Lit.int .u64 s2).wf = true) :
    Calls Try.prog 6 #[.slice a len cap, .int .i64 k, .int .u64 s1, .int .u64 s2] w fun e w' => e = .returned (.bool true) ∧ Below w.heap.size w w' := by
  have hlen : len ≤ maxLen := by
    rcases w0 with ⟨_, rfl, _⟩ | ⟨x, _, h, _⟩
    · exact Nat.zero_le _
    · exact h
  have HB : Hid (_) := fun w => bytes_any a len cap k s1 s2 w hlen
  by_cases c1 : 65536 < len
  · clear w0 w2 w3 hlen
    go_enter Try.func6, Try.ntmps6
    go_wp2_with (go_at_call 16; refine Calls.mono (HB.out _) ?_; rintro e w' ⟨b, rfl, rfl⟩)
    all_goals
      go_ret
      exact ⟨rfl, Below.refl _ _⟩
  by_cases c2 : k < 0
  · clear w0 w2 w3 hlen
    go_enter Try.func6, Try.ntmps6
    go_wp2_with (go_at_call 16; refine Calls.mono (HB.out _) ?_; rintro e w' ⟨b, rfl, rfl⟩)
    all_goals
      go_ret
      exact ⟨rfl, Below.refl _ _⟩
  by_cases c3 : (len : Int) < k
  · clear w0 w2 w3 hlen
    go_enter Try.func6, Try.ntmps6
    go_wp2_with (go_at_call 16; refine Calls.mono (HB.out _) ?_; rintro e w' ⟨b, rfl, rfl⟩)
    all_goals
      go_ret
      exact ⟨rfl, Below.refl _ _⟩
  rcases w0 with ⟨rfl, rfl, rfl⟩ | ⟨x, rfl, _, hcell, hbd⟩
  · have hnil := fun w => run_neq_slice_nil_any (P := Try.prog) w 29 22 none 0 0 0 0 Try.underlying29
    clear w2 w3 hlen
    go_enter Try.func6, Try.ntmps6
    go_wp2_with fail
    refine Calls.mono (HB.out _) ?_
    rintro e w' ⟨b, rfl, rfl⟩
    cases b
    · go_wp2
      go_ret
      exact ⟨rfl, Below.refl _ _⟩
    go_wp2
    go_loop [10, 11] (fun p i => i = .int .i64 0 ∧ p = .bool false) (fun _ _ => 0)
    case atStart => exact ⟨rfl, rfl⟩
    case round =>
      obtain ⟨rfl, rfl⟩ := hrel
      go_wp2
      go_ret
      exact ⟨rfl, Below.refl _ _⟩
  · obtain ⟨q, rfl⟩ := Int.eq_ofNat_of_zero_le (show 0 ≤ k by omega)
    exact walk_main x len cap ws q s1 s2 w (by omega) (by omega) hcell hbd (word_of w2) (word_of w3)

/-! ### The row's step -/
set_option maxRecDepth 100000 in
theorem lifted (os : Os) (started : os.Started) (H : Type) (enc : TypeId × Value → H) :
    ReturnsInHanded {} Try.checked os 6 .any (Rows.fnPickTypeIgnoresZeroWeightTypesSpec.pre6 enc Try.prog Try.f6 Rows.fnPickTypeIgnoresZeroWeightTypesRow.domain false) (Rows.fnPickTypeIgnoresZeroWeightTypesSpec.post enc Try.prog Try.f6 false true false false) := by
  refine returnsInHanded_of_change (C := Try.checked) own started (by kernel_rfl) Try.func6
    (ChangeSpec.witness6 (enc := enc) (C := Try.checked) false ⟨#[], #[.slice none 0 0, .int .i64 0, .int .u64 0, .int .u64 0], []⟩ 8 (by kernel_rfl) (by kernel_rfl) (by kernel_rfl) (by kernel_rfl)) ?_
  intro W base args ds gs before hval0 hW hcnd _
  have hval : ∀ (j : Nat) t v, Try.f6.params[j]? = some t → args[j]? = some v → Value.okWide Try.prog W .any base t v := hval0
  have hW' := hW
  obtain ⟨p, q, hA0, hV, rfl, hfz, hnd⟩ := hW
  have hA : DataW.TrodAll enc Try.prog W 0 (fun _ => true) true Try.f6.params.toList args.toList ds p := hA0
  rw [Try.params6] at hA hval
  obtain ⟨v0, vs0, d0, ds0, p0, q0, hargs, rfl, rfl, h0, r0⟩ := trodAll_cons hA
  obtain ⟨v1, vs1, d1, ds1, p1, q1, rfl, rfl, rfl, h1, r1⟩ := trodAll_cons r0
  obtain ⟨v2, vs2, d2, ds2, p2, q2, rfl, rfl, rfl, h2, r2⟩ := trodAll_cons r1
  obtain ⟨v3, vs3, d3, ds3, p3, q3, rfl, rfl, rfl, h3, r3⟩ := trodAll_cons r2
  obtain ⟨rfl, rfl, rfl⟩ := trodAll_nil r3
  obtain rfl : args = #[v0, v1, v2, v3] := by cases args; simp_all
  obtain ⟨rfl, rfl⟩ := trodVars_none hV
  obtain ⟨a0, len0, cap0, rfl⟩ := okWide_slice Try.underlying29 (hval 0 29 v0 rfl rfl)
  have k0 := h0
  have lt0 : ∀ x ∈ p0, x.block < W.heap.size := by obtain ⟨m, hm⟩ := k0; exact DataW.trod_lt m _ _ _ hm
  obtain ⟨z0, w0⟩ : ∃ ws, Src.IsFloats W a0 len0 cap0 ws := by
    obtain ⟨fuel, hf⟩ := h0
    exact Src.open_floats Try.underlying29 Try.underlying22 (by kernel_rfl) (by simpa [Value.cells] using hf)
  obtain ⟨a1, rfl, rfl, rfl, w1⟩ := open_int Try.underlying3 (hval 1 3 v1 rfl rfl) h1
  obtain ⟨a2, rfl, rfl, rfl, w2⟩ := open_int Try.underlying30 (hval 2 30 v2 rfl rfl) h2
  obtain ⟨a3, rfl, rfl, rfl, w3⟩ := open_int Try.underlying30 (hval 3 30 v3 rfl rfl) h3
  clear hA0 hval0
  refine (walk a0 len0 cap0 z0 a1 a2 a3 W w0 w2 w3).mono fun e W' ⟨he, bel⟩ => ?_
  subst he
  exact ⟨_, rfl, _, _, _, [], _, [], hW', trodAll_mk1 (shut_bool Try.underlying4 _), (trodAll_cons_mk (Below.trod laidOut (by kernel_rfl) (of_decide_eq_true (by kernel_rfl)) k0 bel lt0) (trodAll_cons_mk (shut_int Try.underlying3 w1) (trodAll_cons_mk (shut_int Try.underlying30 w2) (trodAll_cons_mk (shut_int Try.underlying30 w3) trodAll_mk0)))), rfl, bel.frame _, fun h => by cases h⟩

theorem over : Rows.fnPickTypeIgnoresZeroWeightTypesRow.holds Try.pinned (OpenSpec.ofChange Rows.fnPickTypeIgnoresZeroWeightTypesSpec) :=
  OpenClaim.holds_of_wide 6 Try.f6 rfl rfl rfl rfl rfl rfl rfl ⟨rfl, rfl, rfl, rfl, rfl⟩ rfl rfl rfl rfl rfl (by kernel_rfl) Try.func6 (by kernel_rfl)
    (of_decide_eq_true (by kernel_rfl)) (by unfold Func.isWrapper; first | (rw [if_pos (by decide +kernel)]; kernel_rfl) | (rw [if_neg (by decide +kernel)]; exact ⟨rfl, rfl⟩))
    (fun os started H enc _ => lifted os started H enc)

theorem proved : Rows.FnPickTypeIgnoresZeroWeightTypesSaid :=
  over
#print axioms proved
end Go.Proofs.Qxb6618562a.fnPickTypeIgnoresZeroWeightTypes
