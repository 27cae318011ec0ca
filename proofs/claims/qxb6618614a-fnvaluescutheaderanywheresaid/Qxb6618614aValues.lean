import Derived.Test.Qxb6618614aAdd
import Derived.Deep.RegionLaw
import Derived.Deep.Upon
namespace Go.Proofs.Qxb6618614a.Vals
open Go.ChangeShapes Go.WideShapes Go.RowKit
set_option linter.unusedVariables false

/-- What values answers, pn the placeholder's number. -/
def vals (pn : Int) (fld : ByteArray) (eo : Bool) (f : Nat → ByteArray × ByteArray) (ne : Nat) (g : Nat → ByteArray × ByteArray) (nh : Nat) (rc rs mt : List ByteArray) : List ByteArray :=
  if (fld.toList == [36, 38]) = true then rs
  else if (fld.toList == [99, 104, 97, 110, 110, 101, 108, 45, 116, 111]) = true then rc
  else if 0 ≤ pn then (if pn < mt.length then [mt.getD pn.toNat ⟨#[]⟩] else [])
  else K fld f ne ++ (if (fld.toList == [36, 97, 110, 121]) = true then rc else []) ++ (if eo = true then [] else K fld g nh)

/-- append of whatever slice of strings onto a slice that is owned. -/
theorem app_strs (w : World) (ty : TypeId) (base : Nat) (v : Value) (n : Nat) (xs : List Value) (hown : w.ownsRow base 9 1 v n xs) (a : Option Addr) (m c : Nat) (l : List ByteArray) (hs : Strs w a m c l)
    (h63 : n + m ≤ 8388608) (hbase : base ≤ w.heap.size) :
    ∃ a' c' w', (Builtin.append_ #[23, 23] ty #[v, .slice a m c]).run Try.prog w = .ok (.slice a' (n + m) c') w' ∧ w'.ownsRow base 9 1 (.slice a' (n + m) c') (n + m) (xs ++ l.map .string) ∧ w.grownBy w' v.ownBlock := by
  obtain ⟨i0, hi, hz0, hz1, hz2⟩ := info_parts info9
  obtain ⟨hl, h1, h2, hs⟩ := hs
  by_cases h0 : m = 0
  · subst h0
    obtain rfl : l = [] := List.eq_nil_of_length_eq_zero hl
    have hsrc : Src Try.prog i0.size 23 (.slice a 0 c) 0 [] w := by
      cases a with
      | none => exact Src.ofNil w Try.underlying23 c
      | some x => exact Src.ofSlice w Try.underlying23 x 0 c [] (by simp) (by simp) (by simp)
    obtain ⟨a', c', hv, hle⟩ : ∃ a' c', v = .slice a' n c' ∧ n ≤ c' := by
      rcases hown.2 with ⟨rfl, rfl⟩ | ⟨g, cap, cur, rfl, _, _, hle, _⟩
      · exact ⟨_, _, rfl, Nat.le_refl _⟩
      · exact ⟨_, _, rfl, hle⟩
    subst hv
    exact ⟨a', c', w, run_append_nothing w 23 23 ty 9 i0 Try.underlying23 hi a' n c' hle _ hsrc, by simpa using hown, World.grownBy.refl _ _⟩
  · obtain ⟨b, o, rfl, hb, hc⟩ := hs.resolve_left (fun h => h0 h.1)
    obtain ⟨g, cap, w', r1, r2, r3, _⟩ := run_append_lies (P := Try.prog) w 23 ty base 9 i0 (.string ⟨#[]⟩) 1 16 Try.underlying23 hi hz0 hz1 hz2 rfl (by decide) v n xs hown ⟨b, o, none⟩ m c (l.map .string) (by simp [hl])
      (by
        intro j u hu
        rw [List.getElem?_map] at hu
        obtain ⟨y, hy, rfl⟩ := Option.map_eq_some_iff.1 hu
        rw [Addr.add_lit]
        exact hc j y hy)
      (by
        intro u hu
        obtain ⟨y, _, rfl⟩ := List.mem_map.1 hu
        rfl)
      (by omega) (by unfold maxLen; omega) (by omega) hbase _ rfl
    exact ⟨_, _, w', r1, r2, r3⟩

theorem step_app {ops : Array Oper} {o : Oper} {a : Act} {w : World} {K : Act → World → Prop} {Q : Exit → Act → World → Prop} {E : Prop} (hgd : o.guard = none) (s x : Operand)
    (ho : o.op = .call { callee := .builtin .append, args := #[s, x], argTypes := #[23, 23] })
    (base : Nat) (v : Value) (n : Nat) (xs : List Value) (hs : a.eval s = v) (hown : w.ownsRow base 9 1 v n xs) (ad : Option Addr) (m c : Nat) (l : List ByteArray) (hx : a.eval x = .slice ad m c) (hsrc : Strs w ad m c l)
    (h63 : n + m ≤ 8388608) (hbase : base ≤ w.heap.size)
    (h : ∀ a' c' w', w'.ownsRow base 9 1 (.slice a' (n + m) c') (n + m) (xs ++ l.map .string) → w.grownBy w' v.ownBlock → K (a.put o.dst (.slice a' (n + m) c')) w') :
    if Region.wanted o (yielded ops a.tmps) = true then Oper.wp Try.prog o a w K Q else E := by
  have hw : Region.wanted o (yielded ops a.tmps) = true := by simp [Region.wanted, hgd]
  rw [if_pos hw]
  obtain ⟨a', c', w', hr, h2, h3⟩ := app_strs w o.type base v n xs hown ad m c l hsrc h63 hbase
  unfold Oper.wp execOp
  simp only [ho, resolve, invoke, builtin, Sem.run_bind, Sem.run_pure, Result.andThen_ok, List.map_toArray, List.map_cons, List.map_nil, hs, hx, hr]
  exact h a' c' w' h2 h3

theorem step_box' {w w1 : World} {Bv n n0 : Nat} {vq v' : Value} {xs xs0 : List Value} (hv : w.heap[Bv]? = some (.cells #[vq] 23 (0, 0))) (hown : w.ownsRow (Bv + 1) 9 1 vq n0 xs0)
    (hg : w.grownBy w1 vq.ownBlock) (hown' : w1.ownsRow (Bv + 1) 9 1 v' n xs) :
    w1.heap[Bv]? = some (.cells #[vq] 23 (0, 0)) ∧ (w1.setCell ⟨Bv, 0, none⟩ v').heap[Bv]? = some (.cells #[v'] 23 (0, 0)) ∧
      (w1.setCell ⟨Bv, 0, none⟩ v').ownsRow (Bv + 1) 9 1 v' n xs ∧ Below Bv w (w1.setCell ⟨Bv, 0, none⟩ v') ∧ Below (Bv + 1) w w1 := by
  have hlt := lt_of_block hv
  have hrow : ∀ k, vq.ownBlock = some k → Bv + 1 ≤ k := by
    intro k hk
    rcases hown.2 with ⟨rfl, _⟩ | ⟨g', _, _, rfl, hb, _⟩
    · simp [Value.ownBlock] at hk
    · simp [Value.ownBlock] at hk; omega
  have hb : Below (Bv + 1) w w1 := (Below.refl _ _).grown hg (by omega) hrow
  have h1 := (hb.block Bv (by omega)).trans hv
  have hne : v'.ownBlock ≠ some Bv := by
    rcases hown'.2 with ⟨rfl, _⟩ | ⟨g', _, _, rfl, hb, _⟩
    · simp [Value.ownBlock]
    · simp [Value.ownBlock]; omega
  exact ⟨h1, one_setCell h1, ownsRow_setCell_other (a := ⟨Bv, 0, none⟩) hown' hne _, (hb.mono (show Bv ≤ Bv + 1 by omega)).setCell (p := ⟨Bv, 0, none⟩) (Nat.le_refl _) _, hb⟩

/-- an owned slice of strings, read -/
theorem strs_own {w : World} {base n : Nat} {v : Value} {l : List ByteArray} (h : w.ownsRow base 9 1 v n (l.map .string)) : ∃ a c, v = .slice a n c ∧ Strs w a n c l := by
  have hl : l.length = n := by have := h.1; simpa using this
  rcases h.2 with ⟨rfl, rfl⟩ | ⟨g, cap, cur, rfl, hb, hg, hle, hcm, hcs, ht⟩
  · exact ⟨_, _, rfl, hl, Nat.le_refl _, Nat.zero_le _, .inl ⟨rfl, fun _ => rfl⟩⟩
  · refine ⟨_, _, rfl, hl, hle, hcm, .inr ⟨g, 0, rfl, lt_of_block hg, fun i u hu => ?_⟩⟩
    rw [Nat.zero_add]
    have hlt : i < l.length := (List.getElem?_eq_some_iff.1 hu).1
    have h2 : cur.toList[i]? = some (.string u) := by
      have h3 : (cur.toList.take (n * 1))[i]? = some (.string u) := by rw [ht, List.getElem?_map, hu]; rfl
      rwa [List.getElem?_take_of_lt (by omega)] at h3
    rw [cell_of_row w g i cur 9 (0, 0) hg]
    simpa using h2

set_option maxHeartbeats 2000000 in
theorem values_any (Sb Rb : Nat) (pn : Int) (fld : ByteArray) (eo : Bool) (ae ah ac ar am : Option Addr) (ne ce nh ch nc cc nr cr nm cm : Nat) (f g : Nat → ByteArray × ByteArray) (rc rs mt : List ByteArray) (w : World)
    (hp1 : -1 ≤ pn) (hp2 : pn ≤ 9) (hph : ∀ w, Calls Try.prog 15 #[.string fld] w fun e w' => e = .returned (.int .i64 pn) ∧ w = w')
    (hR9 : w.cell? ⟨Rb, 9, none⟩ = some (.string fld)) (hR3 : w.cell? ⟨Rb, 3, none⟩ = some (.bool eo)) (hS2 : w.cell? ⟨Sb, 2, none⟩ = some (.slice ae ne ce)) (hS3 : w.cell? ⟨Sb, 3, none⟩ = some (.slice ah nh ch))
    (hS4 : w.cell? ⟨Sb, 4, none⟩ = some (.slice ac nc cc)) (hS5 : w.cell? ⟨Sb, 5, none⟩ = some (.slice ar nr cr)) (hS6 : w.cell? ⟨Sb, 6, none⟩ = some (.slice am nm cm)) (hRb : Rb < w.heap.size) (hSb : Sb < w.heap.size)
    (he : Flds w ae ne ce f) (hh : Flds w ah nh ch g) (hc : Strs w ac nc cc rc) (hr : Strs w ar nr cr rs) (hm : Strs w am nm cm mt) (be : ne ≤ 1048576) (bh : nh ≤ 1048576) (bc : nc ≤ 1048576) (bm : nm ≤ 1048576) :
    Calls Try.prog 14 #[.pointer (some ⟨Sb, 0, none⟩), .pointer (some ⟨Rb, 0, none⟩)] w fun e w' => ∃ a n c, e = .returned (.slice a n c) ∧ Strs w' a n c (vals pn fld eo f ne g nh rc rs mt) ∧ Below w.heap.size w w' := by
  have HE : Hid (Flds w ae ne ce f) := he
  have HH : Hid (Flds w ah nh ch g) := hh
  have HC : Hid (Strs w ac nc cc rc) := hc
  have HR : Hid (Strs w ar nr cr rs) := hr
  have HM : Hid (Strs w am nm cm mt) := hm
  have HP : Hid (_) := hph
  have HB : Hid (Below w.heap.size w (w.alloc (.cells #[.pointer (some ⟨Rb, 0, none⟩)] 39))) := (Below.refl _ _).alloc (Nat.le_refl _) _
  clear he hh hc hr hm hph
  cases t1 : (fld.toList == [36, 38])
  · cases t2 : (fld.toList == [99, 104, 97, 110, 110, 101, 108, 45, 116, 111])
    · by_cases t3 : 0 ≤ pn
      · by_cases t4 : pn < nm
        · have HV : Hid (vals pn fld eo f ne g nh rc rs mt = [mt.getD pn.toNat ⟨#[]⟩]) := by
            show _ = _
            have := HM.out.1
            simp only [vals]
            rw [if_neg (by rw [t1]; decide), if_neg (by rw [t2]; decide), if_pos t3, if_pos (by omega)]
          obtain ⟨n, rfl⟩ : ∃ n : Nat, pn = n := Int.eq_ofNat_of_zero_le t3
          have hcm : nm ≤ cm := HM.out.2.1
          have hcl : cm ≤ 2 ^ 63 - 1 := HM.out.2.2.1
          go_enter Try.func14, Try.ntmps14
          go_wp2_with (go_at_call 15; refine Calls.mono (HP.out _) ?_; rintro e w' ⟨rfl, rfl⟩)
          go_ret
          refine ⟨_, _, _, rfl, ?_, HB.out⟩
          rw [HV.out]
          obtain ⟨m1, m2, m3, m4⟩ := HM.out
          obtain ⟨b, o, rfl, hb, hcell⟩ := m4.resolve_left (fun h => by omega)
          refine ⟨rfl, by omega, by unfold maxLen; omega, .inr ⟨b, o + n, ?_, Nat.lt_of_lt_of_le hb HB.out.size, ?_⟩⟩
          · show some (Addr.add _ _) = _
            rw [Addr.add_lit]
          · intro i u hu
            match i, hu with
            | 0, hu =>
              simp at hu
              subst hu
              refine (HB.out.cell (p := ⟨b, o + n, none⟩) hb).trans (hcell n _ ?_)
              rw [List.getElem?_eq_getElem (by omega)]
              simp
        · have HV : Hid (vals pn fld eo f ne g nh rc rs mt = []) := by
            show _ = _
            have := HM.out.1
            simp only [vals]
            rw [if_neg (by rw [t1]; decide), if_neg (by rw [t2]; decide), if_pos t3, if_neg (by omega)]
          go_enter Try.func14, Try.ntmps14
          go_wp2_with (go_at_call 15; refine Calls.mono (HP.out _) ?_; rintro e w' ⟨rfl, rfl⟩)
          go_ret
          exact ⟨_, _, _, rfl, by rw [HV.out]; exact ⟨rfl, Nat.le_refl _, Nat.zero_le _, .inl ⟨rfl, fun _ => rfl⟩⟩, HB.out⟩
      · obtain rfl : pn = -1 := by omega
        have HV : Hid (vals (-1) fld eo f ne g nh rc rs mt = K fld f ne ++ (if (fld.toList == [36, 97, 110, 121]) = true then rc else []) ++ (if eo = true then [] else K fld g nh)) := by
          show _ = _
          simp only [vals]
          rw [if_neg (by rw [t1]; decide), if_neg (by rw [t2]; decide), if_neg t3]
        obtain ⟨w1, hw1⟩ : ∃ w1, w1 = (w.alloc (.cells #[.pointer (some ⟨Rb, 0, none⟩)] 39)).alloc (.cells #[.slice none 0 0] 23) := ⟨_, rfl⟩
        have HB1 : Hid (Below w.heap.size w w1) := by rw [hw1]; exact HB.out.alloc (by simp) _
        have q1 : w1.cell? ⟨w.heap.size, 0, none⟩ = some (.pointer (some ⟨Rb, 0, none⟩)) := by rw [hw1]; simp
        have q2 : w1.heap[w.heap.size + 1]? = some (.cells #[.slice none 0 0] 23 (0, 0)) := by rw [hw1]; exact heap_alloc2_new _ _ _
        have HQ1 : Hid (_) := q1
        have HQ2 : Hid (_) := q2
        have HW1 : Hid (_) := hw1
        clear hw1 q1 q2
        go_enter Try.func14, Try.ntmps14
        go_wp2_with (go_at_call 15; refine Calls.mono (HP.out _) ?_; rintro e w' ⟨rfl, rfl⟩)
        rw [← HW1.out]
        have s1 : w.heap.size + 2 ≤ w1.heap.size := by rw [HW1.out]; simp
        refine (add_any w.heap.size (w.heap.size + 1) Rb fld ae ne ce f (.slice none 0 0) [] w w1 HQ1.out ((HB1.out.cell (p := ⟨Rb, 9, none⟩) hRb).trans hR9) (by omega) (by omega) HQ2.out (World.ownsRow_nil _ _ _ _) HE.out (by omega) HB1.out (by simp) be).mono ?_
        rintro e w2 ⟨rfl, v2, hv2, hown2, hb2⟩
        obtain ⟨a2, c2, rfl, hs2⟩ := strs_own (l := K fld f ne) (by simpa using hown2)
        have HV2 : Hid (w2.heap[w.heap.size + 1]? = some (.cells #[.slice a2 (K fld f ne).length c2] 23 (0, 0))) := by simpa [Hid] using hv2
        have HO2 : Hid (w2.ownsRow (w.heap.size + 1 + 1) 9 1 (.slice a2 (K fld f ne).length c2) (K fld f ne).length ((K fld f ne).map .string)) := by simpa [Hid] using hown2
        have HS2 : Hid (Strs w2 a2 (K fld f ne).length c2 (K fld f ne)) := by simpa [Hid] using hs2
        have HB2 : Hid (Below w.heap.size w w2) := HB1.out.trans (hb2.mono (by omega))
        have j1 := (hb2.cell (p := ⟨w.heap.size, 0, none⟩) (show w.heap.size < w.heap.size + 1 by omega)).trans HQ1.out
        have hkl := K_le fld f ne
        have s2 : w.heap.size + 2 ≤ w2.heap.size := Nat.le_trans s1 hb2.size
        clear hv2 hown2 hb2 hs2
        generalize hys : K fld f ne = ys at *
        clear hys HQ1 HQ2 HB1 HW1 s1
        have j2 := (HB2.out.cell (p := ⟨Rb, 9, none⟩) hRb).trans hR9
        have j3 := (HB2.out.cell (p := ⟨Rb, 3, none⟩) hRb).trans hR3
        have j4 := (HB2.out.cell (p := ⟨Sb, 3, none⟩) hSb).trans hS3
        have j5 := (HB2.out.cell (p := ⟨Sb, 4, none⟩) hSb).trans hS4
        have j6 := cell_of_one HV2.out
        have j7 := free_of_one HV2.out
        have G9 : Hid (_) := hR9
        have G3 : Hid (_) := hR3
        have GS3 : Hid (_) := hS3
        clear hR9 hR3 hS2 hS3 hS4 hS5 hS6
        cases t4 : (fld.toList == [36, 97, 110, 121])
        · rw [t4] at HV
          cases eo
          · go_wp2_with fail
            refine (add_any w.heap.size (w.heap.size + 1) Rb fld ah nh ch g _ ys w w2 (by exact j1) (by exact j2) (by omega) (by omega) HV2.out HO2.out HH.out (by omega) HB2.out (by omega) bh).mono ?_
            rintro e w3 ⟨rfl, v3, hv3, hown3, hb3⟩
            obtain ⟨a3, c3, rfl, hs3⟩ := strs_own hown3
            have r1 := cell_of_one hv3
            have HB3 : Hid (Below w.heap.size w w3) := HB2.out.trans (hb3.mono (by omega))
            have HS3 : Hid (Strs w3 a3 (ys ++ K fld g nh).length c3 (ys ++ K fld g nh)) := hs3
            clear hv3 hown3 hb3 hs3 j1 j2 j3 j4 j5 j6 j7
            go_wp2_with fail
            go_ret
            exact ⟨_, _, _, rfl, by rw [HV.out]; simpa using HS3.out, HB3.out⟩
          · go_wp2_with fail
            go_ret
            exact ⟨_, _, _, rfl, by rw [HV.out]; simpa using HS2.out, HB2.out⟩
        · rw [t4] at HV
          have HC2 : Hid (Strs w2 ac nc cc rc) := HC.out.below HB2.out (Nat.le_refl _)
          go_wp2_with fail
          go_region_law ((refine step_app rfl (.tmp 67) (.tmp 71) rfl (w.heap.size + 1 + 1) (.slice a2 ys.length c2) ys.length (ys.map .string) rfl (by exact HO2.out) ac nc cc rc rfl (by exact HC2.out) (by omega) (by exact s2) ?_; intro a3 c3 w3 hown3 hgrow3; obtain ⟨r1, r2, r3, r4, r5⟩ := step_box' (hg := hgrow3) (hown' := hown3) (vq := .slice a2 ys.length c2) (hv := (by exact HV2.out)) (hown := (by exact HO2.out)); have k1 := cell_of_one r1; have k2 := free_of_one r1))
          all_goals
            have HB3 : Hid (Below w.heap.size w (w3.setCell ⟨w.heap.size + 1, 0, none⟩ (.slice a3 (ys.length + nc) c3))) := HB2.out.trans ((⟨r4.os, r4.tape, r4.output, r4.size, r4.block⟩ : Below (w.heap.size + 1) w2 _).mono (by omega))
            have m1 := (show (w3.setCell ⟨w.heap.size + 1, 0, none⟩ (.slice a3 (ys.length + nc) c3)).cell? ⟨w.heap.size, 0, none⟩ = w2.cell? ⟨w.heap.size, 0, none⟩ from r4.cell (p := ⟨w.heap.size, 0, none⟩) (show w.heap.size < w.heap.size + 1 by omega)).trans j1
            have s3 : w2.heap.size ≤ (w3.setCell ⟨w.heap.size + 1, 0, none⟩ (.slice a3 (ys.length + nc) c3)).heap.size := r4.size
            have hrl : rc.length = nc := HC.out.1
            have R3 : Hid ((w3.setCell ⟨w.heap.size + 1, 0, none⟩ (.slice a3 (ys.length + nc) c3)).ownsRow (w.heap.size + 1 + 1) 9 1 (.slice a3 (ys.length + nc) c3) (ys ++ rc).length ((ys ++ rc).map .string)) := by
              rw [List.map_append, List.length_append, hrl]; exact r3
            generalize w3.setCell ⟨w.heap.size + 1, 0, none⟩ (.slice a3 (ys.length + nc) c3) = w4 at *
            have R2 : Hid (w4.heap[w.heap.size + 1]? = some (.cells #[.slice a3 (ys.length + nc) c3] 23 (0, 0))) := r2
            have hS : ∃ a c, Value.slice a3 (ys.length + nc) c3 = .slice a (ys ++ rc).length c ∧ Strs w4 a (ys ++ rc).length c (ys ++ rc) := strs_own R3.out
            have HS4 : Hid (Strs w4 a3 (ys.length + nc) c3 (ys ++ rc)) := by
              obtain ⟨a, c, e1, e2⟩ := hS
              have e3 : (ys ++ rc).length = ys.length + nc := by rw [List.length_append, hrl]
              simp only [Value.slice.injEq] at e1
              obtain ⟨rfl, _, rfl⟩ := e1
              rw [e3] at e2
              exact e2
            have hyr : (ys ++ rc).length ≤ 4194304 := by rw [List.length_append, hrl]; omega
            have HYR : Hid (_) := hyr
            clear r1 r2 r3 r4 r5 k1 k2 hown3 hgrow3 hS hrl hyr j1 j2 j3 j4 j5 j6 j7
            have j1 := (HB3.out.cell (p := ⟨Rb, 9, none⟩) hRb).trans G9.out
            have j2 := (HB3.out.cell (p := ⟨Rb, 3, none⟩) hRb).trans G3.out
            have j4 := (HB3.out.cell (p := ⟨Sb, 3, none⟩) hSb).trans GS3.out
            have j6 := cell_of_one R2.out
            cases eo
            · go_wp2_with fail
              refine (add_any w.heap.size (w.heap.size + 1) Rb fld ah nh ch g _ (ys ++ rc) w w4 (by exact m1) (by exact j1) (by omega) (by omega) R2.out R3.out HH.out (by omega) HB3.out HYR.out bh).mono ?_
              rintro e w5 ⟨rfl, v3, hv3, hown3, hb3⟩
              obtain ⟨a5, c5, rfl, hs3⟩ := strs_own hown3
              have q1 := cell_of_one hv3
              have HB5 : Hid (Below w.heap.size w w5) := HB3.out.trans (hb3.mono (by omega))
              have HS5 : Hid (Strs w5 a5 ((ys ++ rc) ++ K fld g nh).length c5 ((ys ++ rc) ++ K fld g nh)) := hs3
              clear hv3 hown3 hb3 hs3 j1 j2 j4 j6 m1
              go_wp2_with fail
              go_ret
              exact ⟨_, _, _, rfl, by rw [HV.out]; simpa using HS5.out, HB5.out⟩
            · go_wp2_with fail
              go_ret
              exact ⟨_, _, _, rfl, by rw [HV.out]; simpa using HS4.out, HB3.out⟩
    · have HV : Hid (vals pn fld eo f ne g nh rc rs mt = rc) := by
        show _ = _
        simp only [vals]
        rw [if_neg (by rw [t1]; decide), if_pos (by rw [t2])]
      go_enter Try.func14, Try.ntmps14
      go_wp2_with fail
      go_ret
      exact ⟨_, _, _, rfl, by rw [HV.out]; exact HC.out.below HB.out (Nat.le_refl _), HB.out⟩
  · have HV : Hid (vals pn fld eo f ne g nh rc rs mt = rs) := by
      show _ = _
      simp only [vals]
      rw [if_pos (by rw [t1])]
    go_enter Try.func14, Try.ntmps14
    go_wp2_with fail
    go_ret
    exact ⟨_, _, _, rfl, by rw [HV.out]; exact HR.out.below HB.out (Nat.le_refl _), HB.out⟩
end Go.Proofs.Qxb6618614a.Vals
