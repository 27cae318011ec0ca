/- The proof of FnPickTypeFallsInItsWeightsSliceSaid. -/
import Derived.Test.Qxb6618562aClone
import Derived.Test.Qxb6618562aFallB
import Derived.OpenShut
import Derived.ChangeOld
namespace Go.Proofs.Qxb6618562a.fnPickTypeFallsInItsWeightsSlice
open Go.ChangeShapes Go.WideShapes Go.ChangeAt Go.RowKit
set_option linter.unusedVariables false

theorem own : ownKnob Try.prog.godebug = none := by kernel_rfl
theorem laidOut : laidOutB Try.prog = true := by kernel_rfl

theorem run_store_float (P : Program) (w : World) (a : Addr) (m : Mode) (k : FloatKind) (x : Nat) : (store a (.float k x) m).run P w = stored P w a (.float k x) m := run_store P w a _ m rfl
attribute [local go_sem] run_store_float

theorem bytes_any (a : Option Addr) (len cap : Nat) (s1 s2 : Int) (w : World) (h : len ≤ maxLen) :
    Calls Try.prog 10 #[.slice a len cap, .int .u64 s1, .int .u64 s2] w fun e w' => ∃ b, e = .returned (.bool b) ∧ w = w' := by
  unfold maxLen at h
  go_enter Try.func10, Try.ntmps10
  go_wp2
  all_goals
    go_ret
    exact ⟨_, rfl, rfl⟩

/-- A weight that the law takes: dyadic, at most 2 ^ 20. -/
def Ok (x : Nat) : Prop := ∃ M, M ≤ 1099511627776 ∧ ∃ r, Fl.NN x r ∧ Fl.V r = M * Fl.D

theorem dyadic20 (x r : Nat) (w : World) (hx : Fl.NN x r) (hr : r ≤ 1043 * Fl.B) :
    Calls Try.prog 11 #[.float .f64 x] w fun e w' => ∃ b, e = .returned (.bool b) ∧ Hid (b = true → Ok x) ∧ w = w' := by
  obtain ⟨s, N, h1, h2, h3⟩ := Fl.dyadic x r hx hr
  have rm := fun w => run_float_arith (P := Try.prog) w .mul 22 .f64 x 4697254411347427328 s h1
  have rc := fun w => run_convert_float_int (P := Try.prog) w 22 2 .f64 .i64 s N (by kernel_rfl) Try.underlying2 h2
  have H3 : Hid ((FloatKind.f64.format.order (floatOfInt .f64 N) s == some .eq) = true → Ok x) := fun h => by
    obtain ⟨M, hM, e⟩ := h3 h
    exact ⟨M, hM, r, hx, e⟩
  clear h1 h2 h3 hx hr
  go_enter Try.func11, Try.ntmps11
  go_wp2
  go_ret
  exact ⟨_, rfl, H3.out, rfl⟩

theorem gtP {ws N : Nat → Nat} {n : Nat} (h : Fl.Dy ws N n) {j : Nat} (hj : j + 1 ≤ n) (r : Nat) (hr : r < Fl.INF) :
    (FloatKind.f64.format.order (Fl.sumTo ws (j + 1)) (Fl.W false r) == some Ordering.gt) = decide (Fl.V r < Fl.sumN N (j + 1) * Fl.D) := by
  obtain ⟨c, hc, e1, e2⟩ := Fl.sum_dy h hj
  rw [e1, ← e2]
  have := Fl.gt_iff (Fl.NN_mk c (Nat.le_of_lt hc)) (Fl.NN_mk r (Nat.le_of_lt hr))
  refine this.trans ?_
  rw [Bool.eq_iff_iff, decide_eq_true_iff, decide_eq_true_iff, Fl.V_lt_iff]

theorem lastPos_lt (ws : Nat → Nat) (n : Nat) (h : 0 < n) : Fl.lastPos ws n < n := by
  induction n with
  | zero => omega
  | succ n ih =>
    simp only [Fl.lastPos]
    split
    · omega
    · by_cases h0 : n = 0
      · subst h0; simp [Fl.lastPos]
      · have := ih (by omega); omega

set_option maxRecDepth 100000 in
set_option maxHeartbeats 2000000 in
theorem walk_main (x : Addr) (n cap : Nat) (ws : Nat → Nat) (s1 s2 : Int) (w : World) (hn : n ≤ 4096) (hn0 : 0 < n)
    (hc : ∀ i, i < n → w.cell? (x.add i) = some (.float .f64 (ws i))) (hb : ∀ i, i < n → ws i < 18446744073709551616) (hs1 : Pcg.Word s1) (hs2 : Pcg.Word s2) :
    Calls Try.prog 5 #[.slice (some x) n cap, .int .u64 s1, .int .u64 s2] w fun e w' => e = .returned (.bool true) ∧ Below w.heap.size w w' := by
  have HB : Hid (_) := fun w => bytes_any (some x) n cap s1 s2 w (by unfold maxLen; omega)
  have hmk := fun w => run_make_row' (P := Try.prog) 29 22 (.float .f64 0) 8 Try.underlying29 Src.info22 rfl .i64 .i64 n (by omega) (by omega) w
  have hnil := fun w => run_neq_slice_nil_any (P := Try.prog) w 29 22 (some x) n cap 0 0 Try.underlying29
  obtain ⟨w2, hcp, hrow, hbel, hsz⟩ := Src.clone_run x n cap ws w hc
  have HR : Hid (_) := hrow
  have HBL : Hid (_) := hbel
  have HSZ : Hid (_) := hsz
  have HS1 : Hid (_) := hs1
  have HS2 : Hid (_) := hs2
  have HBD : Hid (_) := hb
  have d1 : decide (4096 < (n : Int)) = false := by simp; omega
  have d2 : ((n : Int) == 0) = false := by simp; omega
  clear hc hrow hbel hsz hs1 hs2 hb
  go_enter Try.func5, Try.ntmps5
  go_wp2_with fail
  refine Calls.mono (HB.out _) ?_
  rintro e w' ⟨b, rfl, rfl⟩
  cases b
  · clear hcp hmk hnil
    go_wp2
    go_ret
    exact ⟨rfl, Below.refl _ _⟩
  clear HB
  go_wp2
  clear hcp hnil
  go_loopw [8, 9] (fun i v wr => ∃ q : Nat, q ≤ n ∧ i = .int .i64 q ∧ Hid (∀ j, j < q → Ok (ws j)) ∧ w2 = wr) (fun i _ _ => n - (intOf i).toNat)
  case atStart => exact ⟨0, Nat.zero_le _, rfl, fun j hj => absurd hj (Nat.not_lt_zero _), rfl⟩
  case round =>
    obtain ⟨q, hq, rfl, HG, rfl⟩ := hrel
    by_cases hlt : q < n
    · have hcell : w2.cell? ⟨w.heap.size, q, none⟩ = some (.float .f64 (ws q)) := (show World.rowIs _ _ _ _ _ from HR.out).cell hlt
      cases t1 : (FloatKind.f64.format.order (ws q) 0 == some Ordering.gt || FloatKind.f64.format.order (ws q) 0 == some Ordering.eq)
      · go_wp2
        go_ret
        exact ⟨rfl, HBL.out⟩
      · cases t2 : (FloatKind.f64.format.order (ws q) 4697254411347427328 == some Ordering.gt)
        · obtain ⟨r, hr⟩ := Fl.ge_zero (HBD.out q hlt) t1
          have hr2 := Fl.not_gt hr Fl.c20 t2
          go_wp2_with fail
          refine (dyadic20 _ r _ hr hr2).mono ?_
          rintro e w' ⟨b, rfl, HO, rfl⟩
          clear hr hr2
          cases b
          · go_wp2
            go_ret
            exact ⟨rfl, HBL.out⟩
          · go_wp2
            go_roundw
            case rel => exact ⟨q + 1, by omega, by go_num, (fun j hj => by
              rcases Nat.lt_succ_iff_lt_or_eq.1 hj with h | rfl
              · exact HG.out j h
              · exact HO.out trivial), trivial⟩
            case measure => simp [intOf]; omega
        · go_wp2
          go_ret
          exact ⟨rfl, HBL.out⟩
    · obtain rfl : q = n := by omega
      obtain ⟨N, hN⟩ := Deep.choose_lt (p := fun i M => M ≤ 1099511627776 ∧ ∃ r, Fl.NN (ws i) r ∧ Fl.V r = M * Fl.D) HG.out
      have HD : Hid (Fl.Dy ws N q) := ⟨hn, fun i hi => (hN i hi).2, fun i hi => (hN i hi).1⟩
      clear hN HG
      go_wp2
      clear hmk
      have HR2 : Hid ((w2.alloc (.cells (madeCells #[.float .f64 0] q) 22)).rowIs w2.heap.size 22 q (fun _ => .float .f64 0)) := World.rowIs_made w2 _ _ 22
      go_loopw [12, 13] (fun t i wr => ∃ p : Nat, p ≤ q ∧ i = .int .i64 p ∧ t = .float .f64 (Fl.sumTo ws p) ∧ Hid (wr.heap.size = w2.heap.size + 1) ∧ Hid (wr.rowIs w2.heap.size 22 q (fun j => if j < p then .float .f64 (Fl.sumTo ws (j + 1)) else .float .f64 0)) ∧ Hid (Below w2.heap.size w2 wr)) (fun _ i _ => q - (intOf i).toNat)
      case atStart => exact ⟨0, Nat.zero_le _, rfl, rfl, by simp [Hid], (show World.rowIs _ _ _ _ _ from HR2.out).congr (fun _ _ => by simp), (Below.refl _ _).alloc (Nat.le_refl _) _⟩
      case round =>
        obtain ⟨p, hp1, rfl, rfl, HZ, HW, HBW⟩ := hrel
        have hb1 : w.heap.size < w2.heap.size := by rw [HSZ.out]; omega
        have hold : ∀ j, j < q → wr.cell? ⟨w.heap.size, j, none⟩ = some (.float .f64 (ws j)) := fun j hj => by
          rw [HBW.out.cell (p := ⟨w.heap.size, j, none⟩) hb1]
          exact (show World.rowIs _ _ _ _ _ from HR.out).cell hj
        by_cases hlt : p < q
        · obtain ⟨v, hv⟩ : ∃ v, wr.cell? ⟨w2.heap.size, p, none⟩ = some v := ⟨_, HW.out.cell hlt⟩
          have hf := HW.out.frozen p
          have hc1 := hold p hlt
          have hst := Fl.sumTo_step ws p (fun j hj => by obtain ⟨r, hr, _⟩ := HD.out.w j (by omega); exact ⟨r, hr⟩)
          have ra := fun w => run_float_arith (P := Try.prog) w .add 22 .f64 (Fl.sumTo ws p) (ws p) (Fl.sumTo ws (p + 1)) hst
          clear hold hst
          go_wp2
          go_roundw
          case rel =>
            go_light
            refine ⟨p + 1, by omega, by go_num, rfl, ?_, ?_, ?_⟩
            · show _ = _
              simp [World.setCell]; exact HZ.out
            · refine (HW.out.set p _).congr ?_
              intro j hj
              by_cases e : j = p
              · subst e; simp
              · by_cases e2 : j < p
                · simp [e, e2]; omega
                · have : ¬ j < p + 1 := by omega
                  simp [e, e2, this]
            · exact HBW.out.setCell (by simp) _
          case measure => go_light; simp [intOf]; omega
        · obtain rfl : p = q := by omega
          have HI : Hid (∀ j, j < p → wr.cell? ⟨w2.heap.size, j, none⟩ = some (.float .f64 (Fl.sumTo ws (j + 1)))) := fun j hj => by
            rw [HW.out.cell hj]; simp [hj]
          have HO : Hid (_) := hold
          have HBW2 : Hid (Below w.heap.size w wr) := HBL.out.trans (HBW.out.mono (Nat.le_of_lt hb1))
          have hb2 : w2.heap.size < wr.heap.size := by rw [HZ.out]; omega
          clear hold HR HR2 HBL HW HBW HBD
          obtain ⟨kk, hkk⟩ : ∃ kk : Nat, Pcg.k53 s1 s2 = (kk : Int) := Int.eq_ofNat_of_zero_le (Pcg.k53_bd s1 s2).1
          have hkb : kk < 9007199254740992 := by have := (Pcg.k53_bd s1 s2).2; omega
          obtain ⟨F, hFe⟩ : ∃ F, F = Fl.W false (Fl.rn (kk * 2 ^ (Fl.E - 53))) := ⟨_, rfl⟩
          have hF : Ieee.double.div (floatOfInt .f64 (Pcg.k53 s1 s2)) 4845873199050653696 = some F := by rw [hkk, hFe]; exact Fl.div_exact kk hkb
          obtain ⟨r, hm, hrX, hrI⟩ := Fl.draw_is HD.out kk hkb
          rw [← hFe] at hm
          have HF : Hid (_) := hF
          have HM : Hid (_) := hm
          have HRX : Hid (_) := hrX
          have HRI : Hid (_) := hrI
          clear hkk hkb hFe hF hm hrX hrI hlt
          obtain ⟨T, hT⟩ : ∃ T, T = Fl.sumTo ws p := ⟨_, rfl⟩
          rw [← hT]
          rw [← hT] at HM
          have HT : Hid (_) := hT
          have rm := fun w => run_float_arith (P := Try.prog) w .mul 22 .f64 F T (Fl.W false r) HM.out
          clear hT
          obtain ⟨U0, hU0⟩ : ∃ u, u = Fl.W false r := ⟨_, rfl⟩
          rw [← hU0] at rm HM
          have HU : Hid (_) := hU0
          clear hU0
          go_wp2_with fail
          refine (Src.newSource w.heap.size p ws T s1 s2 _ (by omega) (by omega) (fun i hi => HO.out i hi)).mono ?_
          rintro e w3 ⟨rfl, hs3, hb3⟩
          have HS3 : Hid (_) := hs3
          have HB3 : Hid (_) := hb3
          clear hs3 hb3
          have z3 : wr.heap.size + 1 + p + 4 < w3.heap.size := HS3.out.size
          have HO3 : Hid (∀ j, j < p → w3.cell? ⟨w.heap.size, j, none⟩ = some (.float .f64 (ws j))) := fun j hj => by
            rw [HB3.out.cell (p := ⟨w.heap.size, j, none⟩) (show w.heap.size < wr.heap.size from by omega)]; exact HO.out j hj
          go_wp2_with fail
          refine (Src.newSource w.heap.size p ws T s1 s2 _ (by omega) (by omega) (fun i hi => HO3.out i hi)).mono ?_
          rintro e w4 ⟨rfl, hs4, hb4⟩
          have HS4 : Hid (_) := hs4
          have HB4 : Hid (_) := hb4
          have HS34 : Hid (_) := HS3.out.below hb4 (by omega)
          clear hs4 hb4
          go_wp2_with fail
          refine (Src.rng64 wr.heap.size p ws T F s1 s2 _ HS1.out HS2.out HS34.out HF.out).mono ?_
          rintro e w5 ⟨rfl, ho5⟩
          have HO5 : Hid (_) := ho5
          have HS45 : Hid (_) := HS4.out.only ho5 (by omega)
          clear ho5
          go_wp2_with fail
          refine (Src.pickType w3.heap.size p ws T F s1 s2 _ (by omega) (by omega) HS1.out HS2.out HS45.out HF.out).mono ?_
          rintro e w6 ⟨rfl, ho6⟩
          rw [HM.out]
          have HV2 : Hid (Src.View w6 w3.heap.size p) := HS45.out.view ho6
          have keep : ∀ b o, b < wr.heap.size → w6.cell? ⟨b, o, none⟩ = wr.cell? ⟨b, o, none⟩ := fun b o h => by
            rw [ho6.cell (show b ≠ _ from by omega), HO5.out.cell (show b ≠ _ from by omega), HB4.out.cell (p := ⟨b, o, none⟩) (show b < w3.heap.size from by omega), HB3.out.cell (p := ⟨b, o, none⟩) h]
          have HP6 : Hid (∀ j, j < p → w6.cell? ⟨w2.heap.size, j, none⟩ = some (.float .f64 (Fl.sumTo ws (j + 1)))) := fun j hj => (keep _ _ hb2).trans (HI.out j hj)
          have HW6 : Hid (∀ j, j < p → w6.cell? ⟨w.heap.size, j, none⟩ = some (.float .f64 (ws j))) := fun j hj => (keep _ _ (by omega)).trans (HO.out j hj)
          have HFIN : Hid (Below w.heap.size w w6) := HBW2.out.trans ((HB3.out.mono (by omega)).trans ((HB4.out.mono (by omega)).trans ((HO5.out.below (by omega)).trans (ho6.below (by omega)))))
          obtain ⟨J, hJ⟩ : ∃ J, J = Fl.pick (some U0) ((List.range p).map ws) 0 0 := ⟨_, rfl⟩
          rw [← hJ]
          have HJ : Hid (_) := hJ
          clear HS45 HS34 HS4 HS3 HB3 HB4 HO5 ho6 HO3 HI HO HBW2 HF HM HT HS1 HS2 HZ keep hJ
          go_wp2
          go_loop [18, 19] (fun lo hi => ∃ l h : Nat, l ≤ h ∧ h ≤ p ∧ lo = .int .i64 l ∧ hi = .int .i64 h ∧ Hid (Fl.sumN N l * Fl.D ≤ Fl.V r) ∧ Hid (h = p ∨ Fl.V r < Fl.sumN N (h + 1) * Fl.D)) (fun lo hi => (intOf hi - intOf lo).toNat)
          case atStart => exact ⟨0, p, Nat.zero_le _, Nat.le_refl _, rfl, rfl, by simp [Hid, Fl.sumN], Or.inl rfl⟩
          case round =>
            obtain ⟨l, h, hlh, hhp, rfl, rfl, HA, HBB⟩ := hrel
            by_cases hlt : l < h
            · obtain ⟨md, hmd⟩ : ∃ md, md = l + (h - l) / 2 := ⟨_, rfl⟩
              have hm1 : l ≤ md := by omega
              have hm2 : md < h := by omega
              have hc1 := HP6.out md (by omega)
              have emid : (l : Int) + ((h : Int) - (l : Int)) / 2 = (md : Int) := by omega
              have HMD : Hid (_) := hmd
              clear hmd
              have HGT : Hid (_) := gtP HD.out (show md + 1 ≤ p by omega) r HRI.out
              rw [← HU.out] at HGT
              cases t1 : (FloatKind.f64.format.order (Fl.sumTo ws (md + 1)) U0 == some Ordering.gt)
              · have HA2 : Hid (Fl.sumN N (md + 1) * Fl.D ≤ Fl.V r) := by
                  have h3 := HGT.out.symm.trans t1
                  simp only [decide_eq_false_iff_not] at h3
                  show _ ≤ _
                  omega
                go_wp2
                go_round
                case rel => exact ⟨md + 1, h, by omega, hhp, by go_num, rfl, HA2.out, HBB.out⟩
                case measure => simp [intOf]; omega
              · have HB2 : Hid (Fl.V r < Fl.sumN N (md + 1) * Fl.D) := by
                  have h3 := HGT.out.symm.trans t1
                  simp only [decide_eq_true_eq] at h3
                  exact h3
                go_wp2
                go_round
                case rel => exact ⟨l, md, by omega, by omega, rfl, rfl, HA.out, Or.inr HB2.out⟩
                case measure => simp [intOf]; omega
            · obtain rfl : l = h := by omega
              have hXB : Fl.V r ≤ Fl.B * Fl.D := Nat.le_trans HRX.out (Nat.mul_le_mul_right _ (Fl.sumN_B HD.out (Nat.le_refl _)))
              have HXB : Hid (_) := hXB
              clear hXB
              by_cases hlp : l < p
              · have hl2 : Fl.V r < Fl.sumN N (l + 1) * Fl.D := by
                  rcases HBB.out with h3 | h3
                  · omega
                  · exact h3
                have hJl : J = l := by
                  rw [HJ.out, HU.out]
                  exact Fl.pick_first HD.out (Fl.V r) l HXB.out hlp HA.out hl2 l 0 r 0 (by omega) (by simp [Fl.sumN])
                subst hJl
                have e1 : ((J : Int) == (p : Int)) = false := by simp; omega
                have he := Src.eq_same (w3.heap.size + 1 + J) w6
                clear hl2
                go_wp2_with (go_at_call 15; refine (Src.sourceType w3.heap.size p J ws T _ (by omega) HV2.out.src0 HV2.out.types8 (HV2.out.types J (by omega))).mono ?_; rintro e w' ⟨rfl, hw'⟩; obtain rfl := hw'.symm)
                go_ret
                exact ⟨rfl, HFIN.out⟩
              · obtain rfl : l = p := by omega
                have hJl : J = Fl.lastPos ws l := by
                  rw [HJ.out, HU.out]
                  exact Fl.pick_none HD.out (Fl.V r) HXB.out HA.out l 0 r (by omega) (by simp [Fl.sumN])
                have HJL : Hid (_) := hJl
                have hJlt : J < l := by rw [hJl]; exact lastPos_lt ws l hn0
                have e1 : ((l : Int) == (l : Int)) = true := by simp
                clear hJl
                go_wp2
                go_loop [21, 22] (fun t i => ∃ m : Nat, m ≤ l ∧ i = .int .i64 m ∧ t = .int .i64 (Fl.lastPos ws m : Nat)) (fun _ i => l - (intOf i).toNat)
                case atStart => exact ⟨0, Nat.zero_le _, rfl, rfl⟩
                case round =>
                  obtain ⟨m, hm, rfl, rfl⟩ := hrel
                  by_cases hml : m < l
                  · have hc1 := HW6.out m hml
                    cases t1 : (FloatKind.f64.format.order (ws m) 0 == some Ordering.gt)
                    · have HL : Hid (Fl.lastPos ws (m + 1) = Fl.lastPos ws m) := if_neg (by rw [show Fl.gt0 (ws m) = false from t1]; decide)
                      go_wp2
                      go_round
                      case rel => exact ⟨m + 1, by omega, by go_num, by rw [HL.out]⟩
                      case measure => simp [intOf]; omega
                    · have HL : Hid (Fl.lastPos ws (m + 1) = m) := if_pos t1
                      go_wp2
                      go_round
                      case rel => exact ⟨m + 1, by omega, by go_num, by rw [HL.out]⟩
                      case measure => simp [intOf]; omega
                  · obtain rfl : m = l := by omega
                    rw [← HJL.out]
                    have he := Src.eq_same (w3.heap.size + 1 + J) w6
                    go_wp2_with (go_at_call 15; refine (Src.sourceType w3.heap.size m J ws T _ (by omega) HV2.out.src0 HV2.out.types8 (HV2.out.types J (by omega))).mono ?_; rintro e w' ⟨rfl, hw'⟩; obtain rfl := hw'.symm)
                    go_ret
                    exact ⟨rfl, HFIN.out⟩

theorem word_of {s : Int} (h : (Lit.int .u64 s).wf = true) : Pcg.Word s := by
  have := bounds_u64 h
  unfold Pcg.Word; omega

set_option maxRecDepth 100000 in
set_option maxHeartbeats 2000000 in
theorem walk (a : Option Addr) (len cap : Nat) (ws : Nat → Nat) (s1 s2 : Int) (w : World) (w0 : Src.IsFloats w a len cap ws) (w1 : (Lit.int .u64 s1).wf = true) (w2 : (Lit.int .u64 s2).wf = true) :
    Calls Try.prog 5 #[.slice a len cap, .int .u64 s1, .int .u64 s2] w fun e w' => e = .returned (.bool true) ∧ Below w.heap.size w w' := by
  have hlen : len ≤ maxLen := by
    rcases w0 with ⟨_, rfl, _⟩ | ⟨x, _, h, _⟩
    · exact Nat.zero_le _
    · exact h
  have HB : Hid (_) := fun w => bytes_any a len cap s1 s2 w hlen
  by_cases c1 : 4096 < len
  · clear w0 w1 w2 hlen
    go_enter Try.func5, Try.ntmps5
    go_wp2_with (go_at_call 10; refine Calls.mono (HB.out _) ?_; rintro e w' ⟨b, rfl, rfl⟩)
    all_goals
      go_ret
      exact ⟨rfl, Below.refl _ _⟩
  by_cases c2 : len = 0
  · have c3 : ((len : Int) == 0) = true := by simp [c2]
    clear w0 w1 w2 hlen c2
    go_enter Try.func5, Try.ntmps5
    go_wp2_with (go_at_call 10; refine Calls.mono (HB.out _) ?_; rintro e w' ⟨b, rfl, rfl⟩)
    all_goals
      go_ret
      exact ⟨rfl, Below.refl _ _⟩
  rcases w0 with ⟨rfl, rfl, rfl⟩ | ⟨x, rfl, _, hcell, hbd⟩
  · exact absurd rfl c2
  · exact walk_main x len cap ws s1 s2 w (by omega) (by omega) hcell hbd (word_of w1) (word_of w2)

/-! ### The row's step -/
set_option maxRecDepth 100000 in
theorem lifted (os : Os) (started : os.Started) (H : Type) (enc : TypeId × Value → H) :
    ReturnsInHanded {} Try.checked os 5 .any (Rows.fnPickTypeFallsInItsWeightsSliceSpec.pre6 enc Try.prog Try.f5 Rows.fnPickTypeFallsInItsWeightsSliceRow.domain false) (Rows.fnPickTypeFallsInItsWeightsSliceSpec.post enc Try.prog Try.f5 false true false false) := by
  refine returnsInHanded_of_change (C := Try.checked) own started (by kernel_rfl) Try.func5
    (ChangeSpec.witness6 (enc := enc) (C := Try.checked) false ⟨#[], #[.slice none 0 0, .int .u64 0, .int .u64 0], []⟩ 8 (by kernel_rfl) (by kernel_rfl) (by kernel_rfl) (by kernel_rfl)) ?_
  intro W base args ds gs before hval0 hW hcnd _
  have hval : ∀ (j : Nat) t v, Try.f5.params[j]? = some t → args[j]? = some v → Value.okWide Try.prog W .any base t v := hval0
  have hW' := hW
  obtain ⟨p, q, hA0, hV, rfl, hfz, hnd⟩ := hW
  have hA : DataW.TrodAll enc Try.prog W 0 (fun _ => true) true Try.f5.params.toList args.toList ds p := hA0
  rw [Try.params5] at hA hval
  obtain ⟨v0, vs0, d0, ds0, p0, q0, hargs, rfl, rfl, h0, r0⟩ := trodAll_cons hA
  obtain ⟨v1, vs1, d1, ds1, p1, q1, rfl, rfl, rfl, h1, r1⟩ := trodAll_cons r0
  obtain ⟨v2, vs2, d2, ds2, p2, q2, rfl, rfl, rfl, h2, r2⟩ := trodAll_cons r1
  obtain ⟨rfl, rfl, rfl⟩ := trodAll_nil r2
  obtain rfl : args = #[v0, v1, v2] := by cases args; simp_all
  obtain ⟨rfl, rfl⟩ := trodVars_none hV
  obtain ⟨a0, len0, cap0, rfl⟩ := okWide_slice Try.underlying29 (hval 0 29 v0 rfl rfl)
  have k0 := h0
  have lt0 : ∀ x ∈ p0, x.block < W.heap.size := by obtain ⟨m, hm⟩ := k0; exact DataW.trod_lt m _ _ _ hm
  obtain ⟨z0, w0⟩ : ∃ ws, Src.IsFloats W a0 len0 cap0 ws := by
    obtain ⟨fuel, hf⟩ := h0
    exact Src.open_floats Try.underlying29 Try.underlying22 (by kernel_rfl) (by simpa [Value.cells] using hf)
  obtain ⟨a1, rfl, rfl, rfl, w1⟩ := open_int Try.underlying30 (hval 1 30 v1 rfl rfl) h1
  obtain ⟨a2, rfl, rfl, rfl, w2⟩ := open_int Try.underlying30 (hval 2 30 v2 rfl rfl) h2
  clear hA0 hval0
  refine (walk a0 len0 cap0 z0 a1 a2 W w0 w1 w2).mono fun e W' ⟨he, bel⟩ => ?_
  subst he
  exact ⟨_, rfl, _, _, _, [], _, [], hW', trodAll_mk1 (shut_bool Try.underlying4 _), (trodAll_cons_mk (Below.trod laidOut (by kernel_rfl) (of_decide_eq_true (by kernel_rfl)) k0 bel lt0) (trodAll_cons_mk (shut_int Try.underlying30 w1) (trodAll_cons_mk (shut_int Try.underlying30 w2) trodAll_mk0))), rfl, bel.frame _, fun h => by cases h⟩

theorem over : Rows.fnPickTypeFallsInItsWeightsSliceRow.holds Try.pinned (OpenSpec.ofChange Rows.fnPickTypeFallsInItsWeightsSliceSpec) :=
  OpenClaim.holds_of_wide 5 Try.f5 rfl rfl rfl rfl rfl rfl rfl ⟨rfl, rfl, rfl, rfl, rfl⟩ rfl rfl rfl rfl rfl (by kernel_rfl) Try.func5 (by kernel_rfl)
    (of_decide_eq_true (by kernel_rfl)) (by unfold Func.isWrapper; first | (rw [if_pos (by decide +kernel)]; kernel_rfl) | (rw [if_neg (by decide +kernel)]; exact ⟨rfl, rfl⟩))
    (fun os started H enc _ => lifted os started H enc)

theorem proved : Rows.FnPickTypeFallsInItsWeightsSliceSaid :=
  over
#print axioms proved
end Go.Proofs.Qxb6618562a.fnPickTypeFallsInItsWeightsSlice
