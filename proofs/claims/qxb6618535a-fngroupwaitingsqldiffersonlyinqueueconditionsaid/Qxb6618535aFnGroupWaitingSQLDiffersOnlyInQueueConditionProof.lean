/- The proof of FnGroupWaitingSQLDiffersOnlyInQueueConditionSaid: the frame by the kit's shell, the walk by hand. -/
import Derived.Test.Qxb6618535aRows
import Derived.WalkKit
import Derived.ProofKit
import Derived.OpenShut
import Derived.ShutString
import Derived.Lib.Strings
import Derived.Test.Qxb6618535aGroup
namespace Go.Proofs.Qxb6618535a.fnGroupWaitingSQLDiffersOnlyInQueueCondition
open Go.ChangeShapes Go.WideShapes Go.ChangeAt Go.RowKit
open Go.ChangeMaps (open_string shut_string)
set_option linter.unusedVariables false      -- a walk need not use every 'w<i>' (that an integer argument fits its kind)

theorem own : ownKnob Try.prog.godebug = none := by kernel_rfl

/-! ### The walk -/
theorem bytes_any (a0 a1 a2 : ByteArray) (w : World) (h0 : a0.size ≤ maxLen) (h1 : a1.size ≤ maxLen) (h2 : a2.size ≤ maxLen) :
    Calls Try.prog 8 #[.string a0, .string a1, .string a2] w fun e w' => ∃ b, e = .returned (.bool b) ∧ w' = w := by
  unfold maxLen at h0 h1 h2
  go_enter Try.func8, Try.ntmps8
  go_wp2
  all_goals
    go_ret
    exact ⟨_, rfl, rfl⟩

theorem get_of (x : ByteArray) (l : List UInt8) (h : x.data.toList = l) (k : Nat) (hk : k < x.size) (hl : k < l.length) : x[k] = l[k] := by
  subst h
  simp [ByteArray.getElem_eq_getElem_data]

theorem first_diff (x y : ByteArray) (L r1 r2 : List UInt8) (c d : UInt8) (hx : x.data.toList = L ++ c :: r1) (hy : y.data.toList = L ++ d :: r2) (hcd : c ≠ d) :
    ∃ h1 : L.length < x.size, ∃ h2 : L.length < y.size, (∀ k (h : k < L.length), x[k] = y[k]) ∧ x[L.length] ≠ y[L.length] := by
  have h1 : L.length < x.size := by
    have := congrArg List.length hx
    simp at this; omega
  have h2 : L.length < y.size := by
    have := congrArg List.length hy
    simp at this; omega
  refine ⟨h1, h2, fun k h => ?_, ?_⟩
  · rw [get_of x _ hx k (by omega) (by simp; omega), get_of y _ hy k (by omega) (by simp; omega)]
    rw [List.getElem_append_left h, List.getElem_append_left h]
  · rw [get_of x _ hx _ h1 (by simp), get_of y _ hy _ h2 (by simp)]
    simpa using hcd

def mid : List UInt8 := [113, 117, 101, 117, 101, 32]
def endN : ByteArray := ⟨#[61, 32, 36, 53] ++ Grp.tail.data⟩
def endD : ByteArray := ⟨#[73, 83, 32, 78, 85, 76, 76] ++ Grp.tail.data⟩

theorem sqlN_list (t s : ByteArray) : (Grp.sqlN t s).data.toList = ((Grp.pre t s).data.toList ++ mid) ++ endN.data.toList := by
  simp [Grp.sqlN, mid, endN]
theorem sqlD_list (t s : ByteArray) : (Grp.sqlD t s).data.toList = ((Grp.pre t s).data.toList ++ mid) ++ endD.data.toList := by
  simp [Grp.sqlD, mid, endD]

theorem pre_size (t s : ByteArray) (ht : t.size ≤ 65536) (hs : s.size ≤ 65536) : (Grp.pre t s).size ≤ 200000 := by
  simp only [Grp.pre, ByteArray.size_append]
  have e : ∀ l : Array UInt8, (ByteArray.mk l).size = l.size := fun _ => rfl
  simp only [e]
  simp
  omega
theorem endN_size : endN.size = 87 := by decide +kernel
theorem endD_size : endD.size = 90 := by decide +kernel


theorem sqlN_size (t s : ByteArray) : (Grp.sqlN t s).size = (Grp.pre t s).size + 93 := by
  have h := congrArg List.length (sqlN_list t s)
  have h2 := endN_size
  rw [← ByteArray.size_data] at h2
  simp [mid] at h h2
  omega
theorem sqlD_size (t s : ByteArray) : (Grp.sqlD t s).size = (Grp.pre t s).size + 96 := by
  have h := congrArg List.length (sqlD_list t s)
  have h2 := endD_size
  rw [← ByteArray.size_data] at h2
  simp [mid] at h h2
  omega

theorem exN (t s : ByteArray) : (Grp.sqlN t s).extract ((Grp.pre t s).size + 6) (Grp.sqlN t s).size = endN := by
  apply bytes_inj
  rw [Lib.extract_data, sqlN_list, List.drop_append_of_le_length (by simp [mid]), List.drop_of_length_le (by simp [mid])]
  rw [List.nil_append, List.take_of_length_le]
  rw [sqlN_size]
  have := endN_size
  simp; omega
theorem exD (t s : ByteArray) : (Grp.sqlD t s).extract ((Grp.pre t s).size + 6) (Grp.sqlD t s).size = endD := by
  apply bytes_inj
  rw [Lib.extract_data, sqlD_list, List.drop_append_of_le_length (by simp [mid]), List.drop_of_length_le (by simp [mid])]
  rw [List.nil_append, List.take_of_length_le]
  rw [sqlD_size]
  have := endD_size
  simp; omega
theorem mdN (t s : ByteArray) (e : Nat) (he : e = (Grp.sqlN t s).size - 83) : ((Grp.sqlN t s).extract ((Grp.pre t s).size + 6) e).toList = [61, 32, 36, 53] := by
  subst he
  rw [Lib.extract_toList, sqlN_list, List.drop_append_of_le_length (by simp [mid]), List.drop_of_length_le (by simp [mid])]
  rw [List.nil_append, sqlN_size, show (Grp.pre t s).size + 93 - 83 - ((Grp.pre t s).size + 6) = 4 from by omega]
  decide +kernel
theorem mdD (t s : ByteArray) (e : Nat) (he : e = (Grp.sqlD t s).size - 83) : ((Grp.sqlD t s).extract ((Grp.pre t s).size + 6) e).toList = [73, 83, 32, 78, 85, 76, 76] := by
  subst he
  rw [Lib.extract_toList, sqlD_list, List.drop_append_of_le_length (by simp [mid]), List.drop_of_length_le (by simp [mid])]
  rw [List.nil_append, sqlD_size, show (Grp.pre t s).size + 96 - 83 - ((Grp.pre t s).size + 6) = 7 from by omega]
  decide +kernel

theorem lcpOk (t s : ByteArray) (w : World) (ht : t.size ≤ 65536) (hs : s.size ≤ 65536) (p : Nat) (hpp : p = (Grp.pre t s).size + 6) :
    Calls Try.prog 11 #[.string (Grp.sqlN t s), .string (Grp.sqlD t s)] w fun e w' => e = .returned (.int .i64 p) ∧ ∃ n, w' = w.drewN n := by
  subst hpp
  have hp := pre_size t s ht hs
  obtain ⟨h1, h2, heq, hne⟩ := first_diff (Grp.sqlN t s) (Grp.sqlD t s) ((Grp.pre t s).data.toList ++ mid) (endN.data.toList.tail) (endD.data.toList.tail) 61 73 (by rw [sqlN_list]; rfl) (by rw [sqlD_list]; rfl) (by decide)
  have hL : ((Grp.pre t s).data.toList ++ mid).length = (Grp.pre t s).size + 6 := by simp [mid]
  simp only [hL] at h1 h2 heq hne
  exact Grp.lcp _ _ _ w (by rw [sqlN_size]; omega) (by rw [sqlD_size]; omega) h1 h2 heq hne (by rw [sqlN_size, sqlD_size]; omega)

theorem ends_eq : ∀ k, k < 83 → endN.data.toList[87 - 1 - k]? = endD.data.toList[90 - 1 - k]? := by decide +kernel
theorem ends_ne : endN.data.toList[87 - 1 - 83]? ≠ endD.data.toList[90 - 1 - 83]? := by decide +kernel

theorem lcsOk (w : World) :
    Calls Try.prog 12 #[.string endN, .string endD] w fun e w' => e = .returned (.int .i64 83) ∧ ∃ n, w' = w.drewN n := by
  have h1 := endN_size
  have h2 := endD_size
  have heq : ∀ k (h : k < 83), endN[endN.size - 1 - k] = endD[endD.size - 1 - k] := by
    intro k hk
    rw [get_of endN _ rfl _ (by omega) (by simp; omega), get_of endD _ rfl _ (by omega) (by simp; omega)]
    have e := ends_eq k hk
    rw [List.getElem?_eq_getElem (by simp; omega), List.getElem?_eq_getElem (by simp; omega)] at e
    simp only [h1, h2]
    exact Option.some.inj e
  have hne : endN[endN.size - 1 - 83] ≠ endD[endD.size - 1 - 83] := by
    rw [get_of endN _ rfl _ (by omega) (by simp; omega), get_of endD _ rfl _ (by omega) (by simp; omega)]
    intro h
    apply ends_ne
    rw [List.getElem?_eq_getElem (by simp; omega), List.getElem?_eq_getElem (by simp; omega)]
    simp only [h1, h2] at h
    exact congrArg some h
  exact Grp.lcs endN endD 83 w (by omega) (by omega) (by omega) (by omega) heq hne (by omega)

set_option maxHeartbeats 400000 in
theorem walk (a0 : ByteArray) (a1 : ByteArray) (a2 : ByteArray) (w0 : a0.size ≤ maxLen) (w1 : a1.size ≤ maxLen) (w2 : a2.size ≤ maxLen) (w : World) :
    Calls Try.prog 4 #[.string a0, .string a1, .string a2] w fun e w' => e = .returned (.bool true) ∧ Grown w w' := by
  have HB := fun w => bytes_any a0 a1 a2 w w0 w1 w2
  have HB' : Hid (∀ w, Calls Try.prog 8 #[.string a0, .string a1, .string a2] w fun e w' => ∃ b, e = .returned (.bool b) ∧ w' = w) := HB
  clear HB w0 w1 w2
  by_cases c0 : 65536 < a0.size
  · go_enter Try.func4, Try.ntmps4
    go_wp2_with (go_at_call 8; refine (HB'.out _).mono ?_; rintro e w' ⟨b, rfl, rfl⟩)
    all_goals
      go_ret
      exact ⟨rfl, Grown.refl _⟩
  by_cases c1 : 65536 < a1.size
  · go_enter Try.func4, Try.ntmps4
    go_wp2_with (go_at_call 8; refine (HB'.out _).mono ?_; rintro e w' ⟨b, rfl, rfl⟩)
    all_goals
      go_ret
      exact ⟨rfl, Grown.refl _⟩
  by_cases c2 : 65536 < a2.size
  · go_enter Try.func4, Try.ntmps4
    go_wp2_with (go_at_call 8; refine (HB'.out _).mono ?_; rintro e w' ⟨b, rfl, rfl⟩)
    all_goals
      go_ret
      exact ⟨rfl, Grown.refl _⟩
  have l1 : a1.size ≤ 65536 := by omega
  have l2 : a2.size ≤ 65536 := by omega
  have hx : ((a0 ++ ⟨#[120]⟩).toList == Grp.dflt) = false := by
    rw [beq_eq_false_iff_ne, ByteArray.toList_eq]
    intro h
    have h' : a0.data.toList ++ [120] = [100, 101, 102, 97, 117, 108] ++ [116] := by simpa [Grp.dflt] using h
    have := List.append_inj_right' h' rfl
    simp at this
  cases hq : a0.toList == Grp.dflt
  · go_enter Try.func4, Try.ntmps4
    go_wp2_with fail
    refine (HB'.out _).mono ?_
    rintro e w' ⟨b, rfl, rfl⟩
    cases b
    · go_wp2
      go_ret
      exact ⟨rfl, Grown.refl _⟩
    go_wp2_with fail
    refine (Grp.newLine _ _).mono ?_
    rintro e w1 ⟨b1, rfl, hc1, hg1⟩
    go_wp2_with fail
    refine (Grp.sql_named _ _ _ _ _ l1 l2 hc1 hq).mono ?_
    rintro e w' ⟨rfl, rfl⟩
    clear hc1
    go_wp2_with fail
    refine (Grp.newLine _ _).mono ?_
    rintro e w2 ⟨b2, rfl, hc2, hg2⟩
    go_wp2_with fail
    refine (Grp.sql_default _ _ _ _ _ l1 l2 hc2 Grp.dflt_is).mono ?_
    rintro e w' ⟨rfl, rfl⟩
    clear hc2
    go_wp2_with fail
    refine (Grp.newLine _ _).mono ?_
    rintro e w3 ⟨b3, rfl, hc3, hg3⟩
    go_wp2_with fail
    refine (Grp.sql_named _ _ _ _ _ l1 l2 hc3 hx).mono ?_
    rintro e w' ⟨rfl, rfl⟩
    clear hc3
    go_wp2_with fail
    obtain ⟨p, hpp⟩ : ∃ p, p = (Grp.pre a1 a2).size + 6 := ⟨_, rfl⟩
    have lp : p ≤ 300000 := by have := pre_size a1 a2 l1 l2; omega
    refine (lcpOk _ _ _ l1 l2 p hpp).mono ?_
    rintro e w4 ⟨rfl, hn4⟩
    obtain ⟨n4, hn4⟩ := hn4
    have hg4 := Grp.grown_drewN (Grp.grown_trans (Grp.grown_trans hg1.out.1 hg2.out.1) hg3.out.1) n4
    rw [← hn4] at hg4
    have HG : Hid _ := hg4
    clear hn4 hg1 hg2 hg3 hg4
    have zN : (Grp.sqlN a1 a2).size = p + 87 := by rw [sqlN_size]; omega
    have zD : (Grp.sqlD a1 a2).size = p + 90 := by rw [sqlD_size]; omega
    have eN : (Grp.sqlN a1 a2).extract p (p + 87) = endN := by rw [← zN, hpp]; exact exN _ _
    have eD : (Grp.sqlD a1 a2).extract p (p + 90) = endD := by rw [← zD, hpp]; exact exD _ _
    have mN : ((Grp.sqlN a1 a2).extract p (p + 4)).toList = [61, 32, 36, 53] := by rw [hpp]; exact mdN _ _ _ (by rw [sqlN_size]; omega)
    have mD : ((Grp.sqlD a1 a2).extract p (p + 7)).toList = [73, 83, 32, 78, 85, 76, 76] := by rw [hpp]; exact mdD _ _ _ (by rw [sqlD_size]; omega)
    clear hpp
    generalize Grp.sqlN a1 a2 = rN at *
    generalize Grp.sqlD a1 a2 = rD at *
    have rsN : ∀ w, (Instr.slice 9 (.string rN) (some (.int .i64 (p : Int))) none none).run Try.prog w = .ok (.string endN) w := fun w => by
      rw [run_slice_string_l w 9 rN Try.underlying9 .i64 p (by omega) (by omega), Int.toNat_natCast, zN, eN]
    have rsD : ∀ w, (Instr.slice 9 (.string rD) (some (.int .i64 (p : Int))) none none).run Try.prog w = .ok (.string endD) w := fun w => by
      rw [run_slice_string_l w 9 rD Try.underlying9 .i64 p (by omega) (by omega), Int.toNat_natCast, zD, eD]
    go_wp2_with fail
    go_quiet ((go_at_call 12; exact Calls.quiet_of (lcsOk _)))
    clear rsN rsD
    have hq' : (a0.toList == [100, 101, 102, 97, 117, 108, 116]) = false := hq
    go_wp2
    go_ret
    exact ⟨rfl, Grp.grown_drewN HG.out nq⟩
  · go_enter Try.func4, Try.ntmps4
    go_wp2_with fail
    refine (HB'.out _).mono ?_
    rintro e w' ⟨b, rfl, rfl⟩
    cases b
    · go_wp2
      go_ret
      exact ⟨rfl, Grown.refl _⟩
    go_wp2_with fail
    refine (Grp.newLine _ _).mono ?_
    rintro e w1 ⟨b1, rfl, hc1, hg1⟩
    go_wp2_with fail
    refine (Grp.sql_default _ _ _ _ _ l1 l2 hc1 hq).mono ?_
    rintro e w' ⟨rfl, rfl⟩
    clear hc1
    go_wp2_with fail
    refine (Grp.newLine _ _).mono ?_
    rintro e w2 ⟨b2, rfl, hc2, hg2⟩
    go_wp2_with fail
    refine (Grp.sql_default _ _ _ _ _ l1 l2 hc2 Grp.dflt_is).mono ?_
    rintro e w' ⟨rfl, rfl⟩
    clear hc2
    go_wp2_with fail
    refine (Grp.newLine _ _).mono ?_
    rintro e w3 ⟨b3, rfl, hc3, hg3⟩
    go_wp2_with fail
    refine (Grp.sql_named _ _ _ _ _ l1 l2 hc3 hx).mono ?_
    rintro e w' ⟨rfl, rfl⟩
    clear hc3
    go_wp2_with fail
    obtain ⟨p, hpp⟩ : ∃ p, p = (Grp.pre a1 a2).size + 6 := ⟨_, rfl⟩
    have lp : p ≤ 300000 := by have := pre_size a1 a2 l1 l2; omega
    refine (lcpOk _ _ _ l1 l2 p hpp).mono ?_
    rintro e w4 ⟨rfl, hn4⟩
    obtain ⟨n4, hn4⟩ := hn4
    have hg4 := Grp.grown_drewN (Grp.grown_trans (Grp.grown_trans hg1.out.1 hg2.out.1) hg3.out.1) n4
    rw [← hn4] at hg4
    have HG : Hid _ := hg4
    clear hn4 hg1 hg2 hg3 hg4
    have zN : (Grp.sqlN a1 a2).size = p + 87 := by rw [sqlN_size]; omega
    have zD : (Grp.sqlD a1 a2).size = p + 90 := by rw [sqlD_size]; omega
    have eN : (Grp.sqlN a1 a2).extract p (p + 87) = endN := by rw [← zN, hpp]; exact exN _ _
    have eD : (Grp.sqlD a1 a2).extract p (p + 90) = endD := by rw [← zD, hpp]; exact exD _ _
    have mN : ((Grp.sqlN a1 a2).extract p (p + 4)).toList = [61, 32, 36, 53] := by rw [hpp]; exact mdN _ _ _ (by rw [sqlN_size]; omega)
    have mD : ((Grp.sqlD a1 a2).extract p (p + 7)).toList = [73, 83, 32, 78, 85, 76, 76] := by rw [hpp]; exact mdD _ _ _ (by rw [sqlD_size]; omega)
    clear hpp
    generalize Grp.sqlN a1 a2 = rN at *
    generalize Grp.sqlD a1 a2 = rD at *
    have rsN : ∀ w, (Instr.slice 9 (.string rN) (some (.int .i64 (p : Int))) none none).run Try.prog w = .ok (.string endN) w := fun w => by
      rw [run_slice_string_l w 9 rN Try.underlying9 .i64 p (by omega) (by omega), Int.toNat_natCast, zN, eN]
    have rsD : ∀ w, (Instr.slice 9 (.string rD) (some (.int .i64 (p : Int))) none none).run Try.prog w = .ok (.string endD) w := fun w => by
      rw [run_slice_string_l w 9 rD Try.underlying9 .i64 p (by omega) (by omega), Int.toNat_natCast, zD, eD]
    go_wp2_with fail
    go_quiet ((go_at_call 12; exact Calls.quiet_of (lcsOk _)))
    clear rsN rsD
    have hq' : (a0.toList == [100, 101, 102, 97, 117, 108, 116]) = true := hq
    go_wp2
    go_ret
    exact ⟨rfl, Grp.grown_drewN HG.out nq⟩

/-! ### THE ROW's STEP: WRITTEN OUT: LEAVE IT -/
set_option maxRecDepth 100000 in
theorem lifted (os : Os) (started : os.Started) (H : Type) (enc : TypeId × Value → H) :
    ReturnsInHanded {} Try.checked os 4 .any (Rows.fnGroupWaitingSQLDiffersOnlyInQueueConditionSpec.pre6 enc Try.prog Try.f4 Rows.fnGroupWaitingSQLDiffersOnlyInQueueConditionRow.domain false) (Rows.fnGroupWaitingSQLDiffersOnlyInQueueConditionSpec.post enc Try.prog Try.f4 false true false false) := by
  refine returnsInHanded_of_change (C := Try.checked) own started (by kernel_rfl) Try.func4
    (ChangeSpec.witness6 (enc := enc) (C := Try.checked) false ⟨#[], #[.string ByteArray.empty, .string ByteArray.empty, .string ByteArray.empty], []⟩ 8 (by kernel_rfl) (by kernel_rfl) (by kernel_rfl) (by kernel_rfl)) ?_
  intro W base args ds gs before hval0 hW hcnd _
  have hval : ∀ (j : Nat) t v, Try.f4.params[j]? = some t → args[j]? = some v → Value.okWide Try.prog W .any base t v := hval0
  have hW' := hW
  obtain ⟨p, q, hA0, hV, rfl, hfz, hnd⟩ := hW
  have hA : DataW.TrodAll enc Try.prog W 0 (fun _ => true) true Try.f4.params.toList args.toList ds p := hA0
  rw [Try.params4] at hA hval
  obtain ⟨v0, vs0, d0, ds0, p0, q0, hargs, rfl, rfl, h0, r0⟩ := trodAll_cons hA
  obtain ⟨v1, vs1, d1, ds1, p1, q1, rfl, rfl, rfl, h1, r1⟩ := trodAll_cons r0
  obtain ⟨v2, vs2, d2, ds2, p2, q2, rfl, rfl, rfl, h2, r2⟩ := trodAll_cons r1
  obtain ⟨rfl, rfl, rfl⟩ := trodAll_nil r2
  obtain rfl : args = #[v0, v1, v2] := by cases args; simp_all
  obtain ⟨rfl, rfl⟩ := trodVars_none hV
  obtain ⟨a0, rfl, rfl, rfl, w0⟩ := open_string Try.underlying9 (hval 0 9 v0 rfl rfl) h0
  obtain ⟨a1, rfl, rfl, rfl, w1⟩ := open_string Try.underlying9 (hval 1 9 v1 rfl rfl) h1
  obtain ⟨a2, rfl, rfl, rfl, w2⟩ := open_string Try.underlying9 (hval 2 9 v2 rfl rfl) h2
  clear hA0 hval0
  simp only [List.append_nil] at hW'
  refine (walk a0 a1 a2 w0 w1 w2 W).mono fun e W' ⟨he, hg⟩ => ?_
  subst he
  exact ⟨_, rfl, post_of_same (pa := []) (pv := []) hW' (fun _ _ _ => (trodAll_cons_mk (shut_bool Try.underlying4 _) trodAll_mk0)) (fun sp _ => (trodAll_cons_mk (shut_string Try.underlying9 w0) (trodAll_cons_mk (shut_string Try.underlying9 w1) (trodAll_cons_mk (shut_string Try.underlying9 w2) trodAll_mk0)))) (fun _ _ => rfl) rfl
    (hg.frame _) hg.2.1 (ok_one (by kernel_rfl) rfl (okWide_bool_mk Try.underlying4 _))⟩

theorem over : Rows.fnGroupWaitingSQLDiffersOnlyInQueueConditionRow.holds Try.pinned (OpenSpec.ofChange Rows.fnGroupWaitingSQLDiffersOnlyInQueueConditionSpec) :=
  OpenClaim.holds_of_wide 4 Try.f4 rfl rfl rfl rfl rfl rfl rfl ⟨rfl, rfl, rfl, rfl, rfl⟩ rfl rfl rfl rfl rfl (by kernel_rfl) Try.func4 (by kernel_rfl)
    (of_decide_eq_true (by kernel_rfl)) (by unfold Func.isWrapper; first | (rw [if_pos (by decide +kernel)]; kernel_rfl) | (rw [if_neg (by decide +kernel)]; exact ⟨rfl, rfl⟩))
    (fun os started H enc _ => lifted os started H enc)

/-- ████ THE STATEMENT ████ -/
theorem proved : Rows.FnGroupWaitingSQLDiffersOnlyInQueueConditionSaid :=
  over
#print axioms proved
end Go.Proofs.Qxb6618535a.fnGroupWaitingSQLDiffersOnlyInQueueCondition
