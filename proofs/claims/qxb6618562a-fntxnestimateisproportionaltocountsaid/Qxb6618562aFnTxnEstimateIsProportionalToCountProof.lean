/- The proof of FnTxnEstimateIsProportionalToCountSaid. -/
import Derived.Test.Qxb6618562aEst
import Derived.OpenShut
import Derived.Laws.Cover2
namespace Go.Proofs.Qxb6618562a.fnTxnEstimateIsProportionalToCount
open Go.ChangeShapes Go.WideShapes Go.ChangeAt Go.RowKit
set_option linter.unusedVariables false

theorem own : ownKnob Try.prog.godebug = none := by kernel_rfl

/-! ### The walk -/
theorem c1023 : Fl.NN 9214364837600034816 (2046 * Fl.B) := by
  have h : (9214364837600034816 : Nat) = Fl.W false (2046 * Fl.B) := by decide
  rw [h]; exact Fl.NN_mk _ (by decide)

theorem lt64 {x : Nat} (h : (Lit.float .f64 x).wf = true) : x < 18446744073709551616 := by
  simpa [Lit.wf] using h

set_option maxHeartbeats 1000000 in
theorem walk (x : Nat) (y : Nat) (n : Int) (w0 : (Lit.float .f64 x).wf = true) (w1 : (Lit.float .f64 y).wf = true) (w2 : (Lit.int .i64 n).wf = true) (w : World) :
    Calls Try.prog 3 #[.float .f64 x, .float .f64 y, .int .i64 n] w fun e w' => e = .returned (.bool true) ∧ Grown w w' := by
  by_cases c1 : 4611686018427387903 < n
  · go_enter Try.func3, Try.ntmps3
    go_wp2
    go_ret
    exact ⟨rfl, Grown.refl _⟩
  by_cases c2 : n < -4611686018427387903
  · go_enter Try.func3, Try.ntmps3
    go_wp2
    go_ret
    exact ⟨rfl, Grown.refl _⟩
  cases t1 : (FloatKind.f64.format.order x 0 == some Ordering.gt || FloatKind.f64.format.order x 0 == some Ordering.eq)
  · go_enter Try.func3, Try.ntmps3
    go_wp2
    go_ret
    exact ⟨rfl, Grown.refl _⟩
  cases t2 : (FloatKind.f64.format.order y 0 == some Ordering.gt || FloatKind.f64.format.order y 0 == some Ordering.eq)
  · go_enter Try.func3, Try.ntmps3
    go_wp2
    go_ret
    exact ⟨rfl, Grown.refl _⟩
  cases t3 : (FloatKind.f64.format.order x 9214364837600034816 == some Ordering.gt || FloatKind.f64.format.order x 9214364837600034816 == some Ordering.eq)
  rotate_left
  · go_enter Try.func3, Try.ntmps3
    go_wp2
    go_ret
    exact ⟨rfl, Grown.refl _⟩
  cases t4 : (FloatKind.f64.format.order y 9214364837600034816 == some Ordering.gt || FloatKind.f64.format.order y 9214364837600034816 == some Ordering.eq)
  rotate_left
  · go_enter Try.func3, Try.ntmps3
    go_wp2
    go_ret
    exact ⟨rfl, Grown.refl _⟩
  obtain ⟨a, ha⟩ := Fl.ge_zero (lt64 w0) t1
  obtain ⟨b, hb⟩ := Fl.ge_zero (lt64 w1) t2
  have la := Fl.not_ge ha c1023 t3
  have lb := Fl.not_ge hb c1023 t4
  obtain ⟨S, e, e2, en, lo, d, dl, hS, he, he2, hen, hlo, hd, hdl, q1, q2, q3, q4⟩ := Fl.prop_law x y a b n ha hb la lb (by omega)
  have Hd : Hid (_) := hd
  have rd := fun w => run_float_arith (P := Try.prog) w .mul 22 .f64 4611686018427387904 e d hd
  have rdl := fun w => run_float_arith (P := Try.prog) w .mul 22 .f64 4611686018427387904 lo dl hdl
  have q1' : (FloatKind.f64.format.order e2 d == some .eq) = true := q1
  have q2' : (FloatKind.f64.format.order en (Op.negFloat .f64 e) == some .eq) = true := q2
  clear Hd hd hdl q1 q2 ha hb la lb w0 w1 w2
  have rneg : ∀ w, (Op.unary UnOp.neg (.float .f64 e)).run Try.prog w = .ok (.float .f64 (Op.negFloat .f64 e)) w := fun w => rfl
  have HS : Hid (_) := hS
  have He : Hid (_) := he
  have He2 : Hid (_) := he2
  have Hen : Hid (_) := hen
  clear hS he he2 hen
  by_cases hn : n < 0
  · have hk : ((n.natAbs : Nat) : Int) = -n := by omega
    rw [hk] at hlo
    have rlo := fun w => run_float_arith (P := Try.prog) w .mul 22 .f64 (floatOfInt .f64 (-n)) (Fl.lg x y) lo hlo
    have q5 : (FloatKind.f64.format.order lo (Op.negFloat .f64 e) == some .lt || FloatKind.f64.format.order lo (Op.negFloat .f64 e) == some .eq) = true := (q4 hn).1
    have q6 : (FloatKind.f64.format.order (Op.negFloat .f64 e) dl == some .lt || FloatKind.f64.format.order (Op.negFloat .f64 e) dl == some .eq) = true := (q4 hn).2
    clear q3 q4 hlo hk
    go_enter Try.func3, Try.ntmps3
    go_wp2_with fail
    refine (Est.newTxn _ _ _).mono ?_
    rintro r w1 ⟨b1, rfl, h6, h7, hg⟩
    go_wp2_with fail
    refine (Est.est x y S e b1 n _ h6 h7 HS.out He.out).mono ?_
    rintro r w' ⟨rfl, k1, rfl⟩
    go_wp2_with fail
    refine (Est.est x y S e2 b1 (2 * n) _ (by exact h6) (by exact h7) HS.out He2.out).mono ?_
    rintro r w' ⟨rfl, k2, rfl⟩
    go_wp2_with fail
    refine (Est.est x y S en b1 (-n) _ (by exact h6) (by exact h7) HS.out Hen.out).mono ?_
    rintro r w' ⟨rfl, k3, rfl⟩
    clear h6 h7 HS He He2 Hen t1 t2 t3 t4
    go_wp2_with fail
    refine (Est.larger _ _ _).mono ?_
    rintro r w' ⟨rfl, hw⟩
    subst hw
    go_wp2
    go_ret
    exact ⟨rfl, hg.out.1⟩
  · have hk : ((n.natAbs : Nat) : Int) = n := by omega
    rw [hk] at hlo
    have rlo := fun w => run_float_arith (P := Try.prog) w .mul 22 .f64 (floatOfInt .f64 n) (Fl.lg x y) lo hlo
    have q5 : (FloatKind.f64.format.order lo e == some .lt || FloatKind.f64.format.order lo e == some .eq) = true := (q3 (by omega)).1
    have q6 : (FloatKind.f64.format.order e dl == some .lt || FloatKind.f64.format.order e dl == some .eq) = true := (q3 (by omega)).2
    clear q3 q4 hlo hk
    go_enter Try.func3, Try.ntmps3
    go_wp2_with fail
    refine (Est.newTxn _ _ _).mono ?_
    rintro r w1 ⟨b1, rfl, h6, h7, hg⟩
    go_wp2_with fail
    refine (Est.est x y S e b1 n _ h6 h7 HS.out He.out).mono ?_
    rintro r w' ⟨rfl, k1, rfl⟩
    go_wp2_with fail
    refine (Est.est x y S e2 b1 (2 * n) _ (by exact h6) (by exact h7) HS.out He2.out).mono ?_
    rintro r w' ⟨rfl, k2, rfl⟩
    go_wp2_with fail
    refine (Est.est x y S en b1 (-n) _ (by exact h6) (by exact h7) HS.out Hen.out).mono ?_
    rintro r w' ⟨rfl, k3, rfl⟩
    clear h6 h7 HS He He2 Hen t1 t2 t3 t4
    go_wp2_with fail
    refine (Est.larger _ _ _).mono ?_
    rintro r w' ⟨rfl, hw⟩
    subst hw
    go_wp2
    go_ret
    exact ⟨rfl, hg.out.1⟩
/-! ### The row's step: the kit's frame -/
set_option maxRecDepth 100000 in
theorem lifted (os : Os) (started : os.Started) (H : Type) (enc : TypeId × Value → H) :
    ReturnsInHanded {} Try.checked os 3 .any (Rows.fnTxnEstimateIsProportionalToCountSpec.pre6 enc Try.prog Try.f3 Rows.fnTxnEstimateIsProportionalToCountRow.domain false) (Rows.fnTxnEstimateIsProportionalToCountSpec.post enc Try.prog Try.f3 false true false false) := by
  refine returnsInHanded_of_change (C := Try.checked) own started (by kernel_rfl) Try.func3
    (ChangeSpec.witness6 (enc := enc) (C := Try.checked) false ⟨#[], #[.float .f64 0, .float .f64 0, .int .i64 0], []⟩ 8 (by kernel_rfl) (by kernel_rfl) (by kernel_rfl) (by kernel_rfl)) ?_
  intro W base args ds gs before hval0 hW hcnd _
  have hval : ∀ (j : Nat) t v, Try.f3.params[j]? = some t → args[j]? = some v → Value.okWide Try.prog W .any base t v := hval0
  have hW' := hW
  obtain ⟨p, q, hA0, hV, rfl, hfz, hnd⟩ := hW
  have hA : DataW.TrodAll enc Try.prog W 0 (fun _ => true) true Try.f3.params.toList args.toList ds p := hA0
  rw [Try.params3] at hA hval
  obtain ⟨v0, vs0, d0, ds0, p0, q0, hargs, rfl, rfl, h0, r0⟩ := trodAll_cons hA
  obtain ⟨v1, vs1, d1, ds1, p1, q1, rfl, rfl, rfl, h1, r1⟩ := trodAll_cons r0
  obtain ⟨v2, vs2, d2, ds2, p2, q2, rfl, rfl, rfl, h2, r2⟩ := trodAll_cons r1
  obtain ⟨rfl, rfl, rfl⟩ := trodAll_nil r2
  obtain rfl : args = #[v0, v1, v2] := by cases args; simp_all
  obtain ⟨rfl, rfl⟩ := trodVars_none hV
  obtain ⟨a0, rfl, rfl, rfl, w0⟩ := open_float Try.underlying22 (hval 0 22 v0 rfl rfl) h0
  obtain ⟨a1, rfl, rfl, rfl, w1⟩ := open_float Try.underlying22 (hval 1 22 v1 rfl rfl) h1
  obtain ⟨a2, rfl, rfl, rfl, w2⟩ := open_int Try.underlying3 (hval 2 3 v2 rfl rfl) h2
  clear hA0 hval0
  simp only [List.append_nil] at hW'
  refine (walk a0 a1 a2 w0 w1 w2 W).mono fun e W' ⟨he, hg⟩ => ?_
  subst he
  exact ⟨_, rfl, post_of_same (pa := []) (pv := []) hW' (fun _ _ _ => (trodAll_cons_mk (shut_bool Try.underlying4 _) trodAll_mk0)) (fun sp _ => (trodAll_cons_mk (shut_float Try.underlying22 w0) (trodAll_cons_mk (shut_float Try.underlying22 w1) (trodAll_cons_mk (shut_int Try.underlying3 w2) trodAll_mk0)))) (fun _ _ => rfl) rfl
    (hg.frame _) hg.2.1 (ok_one (by kernel_rfl) rfl (okWide_bool_mk Try.underlying4 _))⟩

theorem over : Rows.fnTxnEstimateIsProportionalToCountRow.holds Try.pinned (OpenSpec.ofChange Rows.fnTxnEstimateIsProportionalToCountSpec) :=
  OpenClaim.holds_of_wide 3 Try.f3 rfl rfl rfl rfl rfl rfl rfl ⟨rfl, rfl, rfl, rfl, rfl⟩ rfl rfl rfl rfl rfl (by kernel_rfl) Try.func3 (by kernel_rfl)
    (of_decide_eq_true (by kernel_rfl)) (by unfold Func.isWrapper; first | (rw [if_pos (by decide +kernel)]; kernel_rfl) | (rw [if_neg (by decide +kernel)]; exact ⟨rfl, rfl⟩))
    (fun os started H enc _ => lifted os started H enc)

theorem proved : Rows.FnTxnEstimateIsProportionalToCountSaid :=
  over
#print axioms proved
end Go.Proofs.Qxb6618562a.fnTxnEstimateIsProportionalToCount
