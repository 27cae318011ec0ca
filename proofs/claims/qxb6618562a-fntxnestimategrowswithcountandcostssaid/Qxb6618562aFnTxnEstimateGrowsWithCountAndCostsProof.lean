/- The proof of FnTxnEstimateGrowsWithCountAndCostsSaid. -/
import Derived.Test.Qxb6618562aEst
import Derived.OpenShut
import Derived.Laws.Cover2
namespace Go.Proofs.Qxb6618562a.fnTxnEstimateGrowsWithCountAndCosts
open Go.ChangeShapes Go.WideShapes Go.ChangeAt Go.RowKit
set_option linter.unusedVariables false

theorem own : ownKnob Try.prog.godebug = none := by kernel_rfl

/-! ### The walk -/
theorem c1022 : Fl.NN 9209861237972664320 (2045 * Fl.B) := by
  have h : (9209861237972664320 : Nat) = Fl.W false (2045 * Fl.B) := by decide
  rw [h]; exact Fl.NN_mk _ (by decide)

theorem lt64 {x : Nat} (h : (Lit.float .f64 x).wf = true) : x < 18446744073709551616 := by
  simpa [Lit.wf] using h

set_option maxHeartbeats 1000000 in
theorem walk (x y x' y' : Nat) (n m : Int) (w0 : (Lit.float .f64 x).wf = true) (w1 : (Lit.float .f64 y).wf = true) (w2 : (Lit.float .f64 x').wf = true) (w3 : (Lit.float .f64 y').wf = true) (w4 : (Lit.int .i64 n).wf = true) (w5 : (Lit.int .i64 m).wf = true) (w : World) :
    Calls Try.prog 4 #[.float .f64 x, .float .f64 y, .float .f64 x', .float .f64 y', .int .i64 n, .int .i64 m] w fun e w' => e = .returned (.bool true) ∧ Grown w w' := by
  by_cases c1 : n < 0
  · go_enter Try.func4, Try.ntmps4
    go_wp2
    go_ret
    exact ⟨rfl, Grown.refl _⟩
  by_cases c2 : m < 0
  · go_enter Try.func4, Try.ntmps4
    go_wp2
    go_ret
    exact ⟨rfl, Grown.refl _⟩
  by_cases c3 : 4611686018427387903 < n
  · go_enter Try.func4, Try.ntmps4
    go_wp2
    go_ret
    exact ⟨rfl, Grown.refl _⟩
  by_cases c4 : 4611686018427387903 < m
  · go_enter Try.func4, Try.ntmps4
    go_wp2
    go_ret
    exact ⟨rfl, Grown.refl _⟩
  cases t1 : (FloatKind.f64.format.order x 0 == some Ordering.gt || FloatKind.f64.format.order x 0 == some Ordering.eq)
  · go_enter Try.func4, Try.ntmps4
    go_wp2
    go_ret
    exact ⟨rfl, Grown.refl _⟩
  cases t2 : (FloatKind.f64.format.order y 0 == some Ordering.gt || FloatKind.f64.format.order y 0 == some Ordering.eq)
  · go_enter Try.func4, Try.ntmps4
    go_wp2
    go_ret
    exact ⟨rfl, Grown.refl _⟩
  cases t3 : (FloatKind.f64.format.order x' 0 == some Ordering.gt || FloatKind.f64.format.order x' 0 == some Ordering.eq)
  · go_enter Try.func4, Try.ntmps4
    go_wp2
    go_ret
    exact ⟨rfl, Grown.refl _⟩
  cases t4 : (FloatKind.f64.format.order y' 0 == some Ordering.gt || FloatKind.f64.format.order y' 0 == some Ordering.eq)
  · go_enter Try.func4, Try.ntmps4
    go_wp2
    go_ret
    exact ⟨rfl, Grown.refl _⟩
  cases u1 : (FloatKind.f64.format.order x 9209861237972664320 == some Ordering.gt || FloatKind.f64.format.order x 9209861237972664320 == some Ordering.eq)
  rotate_left
  · go_enter Try.func4, Try.ntmps4
    go_wp2
    go_ret
    exact ⟨rfl, Grown.refl _⟩
  cases u2 : (FloatKind.f64.format.order y 9209861237972664320 == some Ordering.gt || FloatKind.f64.format.order y 9209861237972664320 == some Ordering.eq)
  rotate_left
  · go_enter Try.func4, Try.ntmps4
    go_wp2
    go_ret
    exact ⟨rfl, Grown.refl _⟩
  cases u3 : (FloatKind.f64.format.order x' 9209861237972664320 == some Ordering.gt || FloatKind.f64.format.order x' 9209861237972664320 == some Ordering.eq)
  rotate_left
  · go_enter Try.func4, Try.ntmps4
    go_wp2
    go_ret
    exact ⟨rfl, Grown.refl _⟩
  cases u4 : (FloatKind.f64.format.order y' 9209861237972664320 == some Ordering.gt || FloatKind.f64.format.order y' 9209861237972664320 == some Ordering.eq)
  rotate_left
  · go_enter Try.func4, Try.ntmps4
    go_wp2
    go_ret
    exact ⟨rfl, Grown.refl _⟩
  obtain ⟨a, ha⟩ := Fl.ge_zero (lt64 w0) t1
  obtain ⟨b, hb⟩ := Fl.ge_zero (lt64 w1) t2
  obtain ⟨c, hc⟩ := Fl.ge_zero (lt64 w2) t3
  obtain ⟨d, hd⟩ := Fl.ge_zero (lt64 w3) t4
  have la := Fl.not_ge ha c1022 u1
  have lb := Fl.not_ge hb c1022 u2
  have lc := Fl.not_ge hc c1022 u3
  have ld := Fl.not_ge hd c1022 u4
  obtain ⟨C, D, S, S', Ss, e, eb, es, lo, dl, hC, hD, hS, hS', hSs, he, heb, hes, hlo, hdl, q1, q2, q3, q4⟩ := Fl.grow_law x y x' y' a b c d n m ha hb hc hd la lb lc ld (by omega) (by omega) (by omega) (by omega)
  have rC := fun w => run_float_arith (P := Try.prog) w .add 22 .f64 x x' C hC
  have rD := fun w => run_float_arith (P := Try.prog) w .add 22 .f64 y y' D hD
  have rlo := fun w => run_float_arith (P := Try.prog) w .mul 22 .f64 (floatOfInt .f64 n) (Fl.lg x y) lo hlo
  have rdl := fun w => run_float_arith (P := Try.prog) w .mul 22 .f64 4611686018427387904 lo dl hdl
  have q1' : (FloatKind.f64.format.order e eb == some .lt || FloatKind.f64.format.order e eb == some .eq) = true := q1
  have q2' : (FloatKind.f64.format.order es e == some .eq) = true := q2
  have q3' : (FloatKind.f64.format.order lo e == some .lt || FloatKind.f64.format.order lo e == some .eq) = true := q3
  have q4' : (FloatKind.f64.format.order e dl == some .lt || FloatKind.f64.format.order e dl == some .eq) = true := q4
  have HS : Hid (_) := hS
  have HS' : Hid (_) := hS'
  have HSs : Hid (_) := hSs
  have He : Hid (_) := he
  have Heb : Hid (_) := heb
  have Hes : Hid (_) := hes
  clear hS hS' hSs he heb hes hC hD hlo hdl q1 q2 q3 q4 ha hb hc hd la lb lc ld w0 w1 w2 w3 w4 w5
  go_enter Try.func4, Try.ntmps4
  go_wp2_with fail
  refine (Est.newTxn _ _ _).mono ?_
  rintro r w1 ⟨b1, rfl, h16, h17, hg1⟩
  go_wp2_with fail
  refine (Est.newTxn _ _ _).mono ?_
  rintro r w2 ⟨b2, rfl, h26, h27, hg2⟩
  go_wp2_with fail
  refine (Est.newTxn _ _ _).mono ?_
  rintro r w3 ⟨b3, rfl, h36, h37, hg3⟩
  have k16 := hg3.out.2 _ _ (hg2.out.2 _ _ h16)
  have k17 := hg3.out.2 _ _ (hg2.out.2 _ _ h17)
  have k26 := hg3.out.2 _ _ h26
  have k27 := hg3.out.2 _ _ h27
  clear h16 h17 h26 h27
  go_wp2_with fail
  refine (Est.est x y S e b1 n _ k16 k17 HS.out He.out).mono ?_
  rintro r w' ⟨rfl, k1, rfl⟩
  go_wp2_with fail
  refine (Est.est C D S' eb b2 (n + m) _ (by exact k26) (by exact k27) HS'.out Heb.out).mono ?_
  rintro r w' ⟨rfl, k2, rfl⟩
  go_wp2_with fail
  refine (Est.est y x Ss es b3 n _ (by exact h36) (by exact h37) HSs.out Hes.out).mono ?_
  rintro r w' ⟨rfl, k3, rfl⟩
  clear k16 k17 k26 k27 h36 h37 HS HS' HSs He Heb Hes t1 t2 t3 t4 u1 u2 u3 u4
  go_wp2_with fail
  refine (Est.larger _ _ _).mono ?_
  rintro r w' ⟨rfl, hw⟩
  subst hw
  go_wp2
  go_ret
  exact ⟨rfl, World.keptBut_trans (World.keptBut_trans hg1.out.1.1 hg2.out.1.1) hg3.out.1.1, fun x => (hg3.out.1.2.1 x).trans ((hg2.out.1.2.1 x).trans (hg1.out.1.2.1 x)), Nat.le_trans hg1.out.1.2.2 (Nat.le_trans hg2.out.1.2.2 hg3.out.1.2.2)⟩
/-! ### The row's step: the kit's frame -/
set_option maxRecDepth 100000 in
theorem lifted (os : Os) (started : os.Started) (H : Type) (enc : TypeId × Value → H) :
    ReturnsInHanded {} Try.checked os 4 .any (Rows.fnTxnEstimateGrowsWithCountAndCostsSpec.pre6 enc Try.prog Try.f4 Rows.fnTxnEstimateGrowsWithCountAndCostsRow.domain false) (Rows.fnTxnEstimateGrowsWithCountAndCostsSpec.post enc Try.prog Try.f4 false true false false) := by
  refine returnsInHanded_of_change (C := Try.checked) own started (by kernel_rfl) Try.func4
    (ChangeSpec.witness6 (enc := enc) (C := Try.checked) false ⟨#[], #[.float .f64 0, .float .f64 0, .float .f64 0, .float .f64 0, .int .i64 0, .int .i64 0], []⟩ 8 (by kernel_rfl) (by kernel_rfl) (by kernel_rfl) (by kernel_rfl)) ?_
  intro W base args ds gs before hval0 hW hcnd _
  have hval : ∀ (j : Nat) t v, Try.f4.params[j]? = some t → args[j]? = some v → Value.okWide Try.prog W .any base t v := hval0
  have hW' := hW
  obtain ⟨p, q, hA0, hV, rfl, hfz, hnd⟩ := hW
  have hA : DataW.TrodAll enc Try.prog W 0 (fun _ => true) true Try.f4.params.toList args.toList ds p := hA0
  rw [Try.params4] at hA hval
  obtain ⟨v0, vs0, d0, ds0, p0, q0, hargs, rfl, rfl, h0, r0⟩ := trodAll_cons hA
  obtain ⟨v1, vs1, d1, ds1, p1, q1, rfl, rfl, rfl, h1, r1⟩ := trodAll_cons r0
  obtain ⟨v2, vs2, d2, ds2, p2, q2, rfl, rfl, rfl, h2, r2⟩ := trodAll_cons r1
  obtain ⟨v3, vs3, d3, ds3, p3, q3, rfl, rfl, rfl, h3, r3⟩ := trodAll_cons r2
  obtain ⟨v4, vs4, d4, ds4, p4, q4, rfl, rfl, rfl, h4, r4⟩ := trodAll_cons r3
  obtain ⟨v5, vs5, d5, ds5, p5, q5, rfl, rfl, rfl, h5, r5⟩ := trodAll_cons r4
  obtain ⟨rfl, rfl, rfl⟩ := trodAll_nil r5
  obtain rfl : args = #[v0, v1, v2, v3, v4, v5] := by cases args; simp_all
  obtain ⟨rfl, rfl⟩ := trodVars_none hV
  obtain ⟨a0, rfl, rfl, rfl, w0⟩ := open_float Try.underlying22 (hval 0 22 v0 rfl rfl) h0
  obtain ⟨a1, rfl, rfl, rfl, w1⟩ := open_float Try.underlying22 (hval 1 22 v1 rfl rfl) h1
  obtain ⟨a2, rfl, rfl, rfl, w2⟩ := open_float Try.underlying22 (hval 2 22 v2 rfl rfl) h2
  obtain ⟨a3, rfl, rfl, rfl, w3⟩ := open_float Try.underlying22 (hval 3 22 v3 rfl rfl) h3
  obtain ⟨a4, rfl, rfl, rfl, w4⟩ := open_int Try.underlying3 (hval 4 3 v4 rfl rfl) h4
  obtain ⟨a5, rfl, rfl, rfl, w5⟩ := open_int Try.underlying3 (hval 5 3 v5 rfl rfl) h5
  clear hA0 hval0
  simp only [List.append_nil] at hW'
  refine (walk a0 a1 a2 a3 a4 a5 w0 w1 w2 w3 w4 w5 W).mono fun e W' ⟨he, hg⟩ => ?_
  subst he
  exact ⟨_, rfl, post_of_same (pa := []) (pv := []) hW' (fun _ _ _ => (trodAll_cons_mk (shut_bool Try.underlying4 _) trodAll_mk0)) (fun sp _ => (trodAll_cons_mk (shut_float Try.underlying22 w0) (trodAll_cons_mk (shut_float Try.underlying22 w1) (trodAll_cons_mk (shut_float Try.underlying22 w2) (trodAll_cons_mk (shut_float Try.underlying22 w3) (trodAll_cons_mk (shut_int Try.underlying3 w4) (trodAll_cons_mk (shut_int Try.underlying3 w5) trodAll_mk0))))))) (fun _ _ => rfl) rfl
    (hg.frame _) hg.2.1 (ok_one (by kernel_rfl) rfl (okWide_bool_mk Try.underlying4 _))⟩

theorem over : Rows.fnTxnEstimateGrowsWithCountAndCostsRow.holds Try.pinned (OpenSpec.ofChange Rows.fnTxnEstimateGrowsWithCountAndCostsSpec) :=
  OpenClaim.holds_of_wide 4 Try.f4 rfl rfl rfl rfl rfl rfl rfl ⟨rfl, rfl, rfl, rfl, rfl⟩ rfl rfl rfl rfl rfl (by kernel_rfl) Try.func4 (by kernel_rfl)
    (of_decide_eq_true (by kernel_rfl)) (by unfold Func.isWrapper; first | (rw [if_pos (by decide +kernel)]; kernel_rfl) | (rw [if_neg (by decide +kernel)]; exact ⟨rfl, rfl⟩))
    (fun os started H enc _ => lifted os started H enc)

theorem proved : Rows.FnTxnEstimateGrowsWithCountAndCostsSaid :=
  over
#print axioms proved
end Go.Proofs.Qxb6618562a.fnTxnEstimateGrowsWithCountAndCosts
