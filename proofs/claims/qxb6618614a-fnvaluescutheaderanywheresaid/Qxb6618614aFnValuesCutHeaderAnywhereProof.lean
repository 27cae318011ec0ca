/- The proof of FnValuesCutHeaderAnywhereSaid. -/
import Derived.Test.Qxb6618614aCut
import Derived.ProofKit
import Derived.OpenShut
import Derived.ChangeOld
import Derived.ShutString
namespace Go.Proofs.Qxb6618614a.fnValuesCutHeaderAnywhere
open Go.ChangeShapes Go.WideShapes Go.ChangeAt Go.RowKit Vals
open Go.ChangeMaps (open_string shut_string)
set_option linter.unusedVariables false

theorem own : ownKnob Try.prog.godebug = none := by kernel_rfl
theorem laidOut : laidOutB Try.prog = true := by kernel_rfl

theorem spot_none {w : World} {a : Addr} {v : Value} (h : w.cell? a = some v) : a = ⟨a.block, a.off, none⟩ ∧ a.block < w.heap.size := by
  obtain ⟨b, o, s⟩ := a
  unfold World.cell? at h
  have hlt : b < w.heap.size := by
    rcases Nat.lt_or_ge b w.heap.size with hb | hb
    · exact hb
    · simp [Array.getElem?_eq_none hb] at h
  refine ⟨?_, hlt⟩
  cases s with
  | none => rfl
  | some s =>
    split at h
    · simp at h
    · cases h

theorem open_S {H : Type} {enc : TypeId × Value → H} {w : World} {base : Nat} {spare : Nat → Bool} {held : Bool} {fuel : Nat} {a : Option Addr} {len cap : Nat} {x : DataW H × List MemPlace}
    (h : DataW.trod enc Try.prog w base spare held fuel 23 [.slice a len cap] = some x) : ∃ l, Strs w a len cap l := by
  rcases Deep.open_strs Try.underlying23 Try.underlying9 (by kernel_rfl) h with ⟨hcs, _⟩ | ⟨y, l, c, m, Sx, hcs, _, hl, hm, hmm, _, hel⟩
  · simp at hcs
    obtain ⟨rfl, rfl, rfl⟩ := hcs
    exact ⟨[], rfl, Nat.le_refl _, Nat.zero_le _, .inl ⟨rfl, fun _ => rfl⟩⟩
  · simp at hcs
    obtain ⟨rfl, rfl, rfl⟩ := hcs
    have hlm : len ≤ m := by rw [hmm]; split <;> omega
    refine ⟨(List.range len).map Sx, by simp, hl, hm, ?_⟩
    by_cases h0 : len = 0
    · exact .inl ⟨h0, fun h => by cases h⟩
    · have hc0 := (hel 0 (by omega)).1
      rw [Addr.add_zero'] at hc0
      obtain ⟨e1, e2⟩ := spot_none hc0
      refine .inr ⟨y.block, y.off, congrArg some e1, e2, fun i u hu => ?_⟩
      have hi : i < len := by
        have := (List.getElem?_eq_some_iff.1 hu).1
        simpa using this
      have hu2 : u = Sx i := by
        rw [List.getElem?_map, List.getElem?_range hi] at hu
        simpa using hu.symm
      have := (hel i (by omega)).1
      rw [e1, Addr.add_lit] at this
      rw [hu2]
      exact this

theorem open_F {H : Type} {enc : TypeId × Value → H} {w : World} {base : Nat} {spare : Nat → Bool} {held : Bool} {fuel : Nat} {a : Option Addr} {len cap : Nat} {x : DataW H × List MemPlace}
    (h : DataW.trod enc Try.prog w base spare held fuel 22 [.slice a len cap] = some x) : ∃ f, Flds w a len cap f := by
  rcases Deep.open_slice_pairs Try.underlying22 Try.underlying34 (by kernel_rfl) rfl rfl (by kernel_rfl) (by kernel_rfl) h with ⟨hcs, _⟩ | ⟨y, l, c, m, n, V0, V1, D0, D1, P0, P1, hcs, _, hl, hm, hmm, _, hel⟩
  · simp at hcs
    obtain ⟨rfl, rfl, rfl⟩ := hcs
    exact ⟨fun _ => (⟨#[]⟩, ⟨#[]⟩), Nat.le_refl _, Nat.zero_le _, .inl ⟨rfl, fun _ => rfl⟩⟩
  · simp at hcs
    obtain ⟨rfl, rfl, rfl⟩ := hcs
    have hlm : len ≤ m := by rw [hmm]; split <;> omega
    have each : ∀ i, i < len → ∃ p : ByteArray × ByteArray, w.cell? (y.add (i * 2)) = some (.string p.1) ∧ w.cell? (y.add (i * 2 + 1)) = some (.string p.2) := by
      intro i hi
      obtain ⟨c0, c1, t0, t1⟩ := hel i (by omega)
      obtain ⟨s0, e0, _⟩ := DataW.trod_string Try.underlying9 t0
      obtain ⟨s1, e1, _⟩ := DataW.trod_string Try.underlying9 t1
      simp at e0 e1
      exact ⟨(s0, s1), by rw [c0, e0], by rw [c1, e1]⟩
    obtain ⟨f, hf⟩ := Deep.choose_lt each
    refine ⟨f, hl, hm, ?_⟩
    by_cases h0 : len = 0
    · exact .inl ⟨h0, fun h => by cases h⟩
    · have hc0 := (hf 0 (by omega)).1
      rw [Nat.zero_mul, Addr.add_zero'] at hc0
      obtain ⟨e1, e2⟩ := spot_none hc0
      refine .inr ⟨y.block, y.off, congrArg some e1, e2, fun i hi => ?_⟩
      have := hf i hi
      rw [e1, Addr.add_lit, Addr.add_lit] at this
      exact this

set_option maxRecDepth 100000 in
set_option maxHeartbeats 8000000 in
theorem walk (ae ah ac ar am : Option Addr) (ne ce nh ch nc cc nr cr nm cm : Nat) (f g : Nat → ByteArray × ByteArray) (rc rs mt : List ByteArray) (fld : ByteArray) (eo : Bool) (k0 : Int) (w : World)
    (he : Flds w ae ne ce f) (hh : Flds w ah nh ch g) (hc : Strs w ac nc cc rc) (hr : Strs w ar nr cr rs) (hm : Strs w am nm cm mt) :
    Calls Try.prog 3 #[.slice ae ne ce, .slice ah nh ch, .slice ac nc cc, .slice ar nr cr, .slice am nm cm, .string fld, .bool eo, .int .i64 k0] w fun e w' => e = .returned (.bool true) ∧ Below w.heap.size w w' := by
  have HBY : Hid (_) := bytes_any ae ah ac ar am ne ce nh ch nc cc nr cr nm cm f g rc rs mt fld eo k0 w he hh hc hr hm
  have HTB : Hid (_) := too_big ae ah ac ar am ne ce nh ch nc cc nr cr nm cm f g rc rs mt fld w he hh hc hr hm
  have HE : Hid (Flds w ae ne ce f) := he
  have HH : Hid (Flds w ah nh ch g) := hh
  have HC : Hid (Strs w ac nc cc rc) := hc
  have HR : Hid (Strs w ar nr cr rs) := hr
  have HM : Hid (Strs w am nm cm mt) := hm
  obtain ⟨pn, p1, p2, _, hph⟩ := ph_any fld
  obtain ⟨pa, pa1, pa2, pa3, hpha⟩ := ph_any ⟨#[36, 97, 110, 121]⟩
  obtain rfl : pa = -1 := pa3 (by decide)
  have HP : Hid (_) := hph
  have HPA : Hid (_) := hpha
  have BL3 : Hid (nc ≤ 1048576 → rc.length ≤ 1048576) := fun h => by rw [hc.1]; exact h
  have BL4 : Hid (nr ≤ 1048576 → rs.length ≤ 1048576) := fun h => by rw [hr.1]; exact h
  clear he hh hc hr hm hph hpha pa1 pa2 pa3
  go_enter Try.func3, Try.ntmps3
  go_wp2_with fail
  refine Calls.mono HBY.out ?_
  rintro e w' ⟨⟨b, rfl, hb⟩, rfl⟩
  cases b
  · clear hb
    go_wp2_with fail
    go_ret
    exact ⟨rfl, Below.refl _ _⟩
  obtain ⟨b1, b2, b3, b4, b5⟩ := hb rfl
  replace BL3 : Hid (rc.length ≤ 1048576) := BL3.out b3
  replace BL4 : Hid (rs.length ≤ 1048576) := BL4.out b4
  clear hb HBY
  go_wp2_with fail
  refine Calls.mono HTB.out ?_
  rintro e w' ⟨⟨b, rfl⟩, rfl⟩
  cases b
  case true =>
    go_wp2_with fail
    go_ret
    exact ⟨rfl, Below.refl _ _⟩
  clear HTB
  by_cases hk0 : 0 ≤ k0
  case neg =>
    go_wp2_with fail
    go_ret
    exact ⟨rfl, Below.refl _ _⟩
  obtain ⟨k, rfl⟩ : ∃ k : Nat, k0 = k := Int.eq_ofNat_of_zero_le hk0
  by_cases hk : k ≤ nh
  case neg =>
    have hk2 : (nh : Int) < (k : Int) := by omega
    go_wp2_with fail
    go_ret
    exact ⟨rfl, Below.refl _ _⟩
  have BB : Hid (Below w.heap.size w w) := Below.refl _ _
  go_wp2_with fail
  refine Calls.mono (clone_flds _ _ _ _ _ HE.out b1) ?_
  rintro e w1 ⟨ae1, ce1, rfl, hs, hb⟩
  replace HH : Hid (Flds w1 ah nh ch g) := HH.out.below hb (Nat.le_refl _)
  replace HC : Hid (Strs w1 ac nc cc rc) := HC.out.below hb (Nat.le_refl _)
  replace HR : Hid (Strs w1 ar nr cr rs) := HR.out.below hb (Nat.le_refl _)
  replace HM : Hid (Strs w1 am nm cm mt) := HM.out.below hb (Nat.le_refl _)
  replace HE : Hid (Flds w1 ae1 ne ce1 f) := hs
  replace BB : Hid (Below w.heap.size w w1) := BB.out.trans (hb.mono BB.out.size)
  clear hb hs
  go_wp2_with fail
  refine Calls.mono (clone_flds _ _ _ _ _ HH.out b2) ?_
  rintro e w2 ⟨ah1, ch1, rfl, hs, hb⟩
  replace HC : Hid (Strs w2 ac nc cc rc) := HC.out.below hb (Nat.le_refl _)
  replace HR : Hid (Strs w2 ar nr cr rs) := HR.out.below hb (Nat.le_refl _)
  replace HM : Hid (Strs w2 am nm cm mt) := HM.out.below hb (Nat.le_refl _)
  replace HE : Hid (Flds w2 ae1 ne ce1 f) := HE.out.below hb (Nat.le_refl _)
  replace HH : Hid (Flds w2 ah1 nh ch1 g) := hs
  replace BB : Hid (Below w.heap.size w w2) := BB.out.trans (hb.mono BB.out.size)
  clear hb hs
  go_wp2_with fail
  refine Calls.mono (clone_strs _ _ _ _ _ HC.out b3) ?_
  rintro e w3 ⟨ac1, cc1, rfl, hs, hb⟩
  replace HR : Hid (Strs w3 ar nr cr rs) := HR.out.below hb (Nat.le_refl _)
  replace HM : Hid (Strs w3 am nm cm mt) := HM.out.below hb (Nat.le_refl _)
  replace HE : Hid (Flds w3 ae1 ne ce1 f) := HE.out.below hb (Nat.le_refl _)
  replace HH : Hid (Flds w3 ah1 nh ch1 g) := HH.out.below hb (Nat.le_refl _)
  replace HC : Hid (Strs w3 ac1 nc cc1 rc) := hs
  replace BB : Hid (Below w.heap.size w w3) := BB.out.trans (hb.mono BB.out.size)
  clear hb hs
  go_wp2_with fail
  refine Calls.mono (clone_strs _ _ _ _ _ HR.out b4) ?_
  rintro e w4 ⟨ar1, cr1, rfl, hs, hb⟩
  replace HM : Hid (Strs w4 am nm cm mt) := HM.out.below hb (Nat.le_refl _)
  replace HE : Hid (Flds w4 ae1 ne ce1 f) := HE.out.below hb (Nat.le_refl _)
  replace HH : Hid (Flds w4 ah1 nh ch1 g) := HH.out.below hb (Nat.le_refl _)
  replace HC : Hid (Strs w4 ac1 nc cc1 rc) := HC.out.below hb (Nat.le_refl _)
  replace HR : Hid (Strs w4 ar1 nr cr1 rs) := hs
  replace BB : Hid (Below w.heap.size w w4) := BB.out.trans (hb.mono BB.out.size)
  clear hb hs
  go_wp2_with fail
  refine Calls.mono (clone_strs _ _ _ _ _ HM.out b5) ?_
  rintro e w5 ⟨am1, cm1, rfl, hs, hb⟩
  replace HE : Hid (Flds w5 ae1 ne ce1 f) := HE.out.below hb (Nat.le_refl _)
  replace HH : Hid (Flds w5 ah1 nh ch1 g) := HH.out.below hb (Nat.le_refl _)
  replace HC : Hid (Strs w5 ac1 nc cc1 rc) := HC.out.below hb (Nat.le_refl _)
  replace HR : Hid (Strs w5 ar1 nr cr1 rs) := HR.out.below hb (Nat.le_refl _)
  replace HM : Hid (Strs w5 am1 nm cm1 mt) := hs
  replace BB : Hid (Below w.heap.size w w5) := BB.out.trans (hb.mono BB.out.size)
  clear hb hs
  go_wp2_with fail
  refine Calls.mono (to_filter _ _ _ _ _ HE.out b1) ?_
  rintro e w6 ⟨ae2, ce2, rfl, hs, hb⟩
  replace HH : Hid (Flds w6 ah1 nh ch1 g) := HH.out.below hb (Nat.le_refl _)
  replace HC : Hid (Strs w6 ac1 nc cc1 rc) := HC.out.below hb (Nat.le_refl _)
  replace HR : Hid (Strs w6 ar1 nr cr1 rs) := HR.out.below hb (Nat.le_refl _)
  replace HM : Hid (Strs w6 am1 nm cm1 mt) := HM.out.below hb (Nat.le_refl _)
  replace HE : Hid (Flds w6 ae2 ne ce2 f) := hs
  replace BB : Hid (Below w.heap.size w w6) := BB.out.trans (hb.mono BB.out.size)
  clear hb hs
  go_wp2_with fail
  refine Calls.mono (to_filter _ _ _ _ _ HH.out b2) ?_
  rintro e w7 ⟨ah2, ch2, rfl, hs, hb⟩
  replace HC : Hid (Strs w7 ac1 nc cc1 rc) := HC.out.below hb (Nat.le_refl _)
  replace HR : Hid (Strs w7 ar1 nr cr1 rs) := HR.out.below hb (Nat.le_refl _)
  replace HM : Hid (Strs w7 am1 nm cm1 mt) := HM.out.below hb (Nat.le_refl _)
  replace HE : Hid (Flds w7 ae2 ne ce2 f) := HE.out.below hb (Nat.le_refl _)
  replace HH : Hid (Flds w7 ah2 nh ch2 g) := hs
  replace BB : Hid (Below w.heap.size w w7) := BB.out.trans (hb.mono BB.out.size)
  clear hb hs
  have q1 : nh ≤ ch2 := HH.out.1
  have q2 : ch2 ≤ 2 ^ 63 - 1 := HH.out.2.1
  go_wp2_with fail
  refine Calls.mono (zz_any pn fld eo _ _ _ _ _ _ _ _ _ _ _ _ _ _ _ f g rc rs mt _ p1 p2 HP.out HE.out HH.out HC.out HR.out HM.out b1 b2 b3 b5) ?_
  rintro e w8 ⟨aS1, nS1, cS1, rfl, hs, hb⟩
  replace HC : Hid (Strs w8 ac1 nc cc1 rc) := HC.out.below hb (Nat.le_refl _)
  replace HR : Hid (Strs w8 ar1 nr cr1 rs) := HR.out.below hb (Nat.le_refl _)
  replace HM : Hid (Strs w8 am1 nm cm1 mt) := HM.out.below hb (Nat.le_refl _)
  replace HE : Hid (Flds w8 ae2 ne ce2 f) := HE.out.below hb (Nat.le_refl _)
  replace HH : Hid (Flds w8 ah2 nh ch2 g) := HH.out.below hb (Nat.le_refl _)
  have S1 : Hid (Strs w8 aS1 nS1 cS1 (vals pn fld eo f ne g nh rc rs mt)) := hs
  replace BB : Hid (Below w.heap.size w w8) := BB.out.trans (hb.mono BB.out.size)
  clear hb hs
  go_wp2_with fail
  refine Calls.mono (zz_any pn fld eo _ _ _ _ _ _ _ _ _ _ _ _ _ _ _ f g rc rs mt _ p1 p2 HP.out HE.out (HH.out.cutLow hk) HC.out HR.out HM.out b1 (by omega) b3 b5) ?_
  rintro e w9 ⟨aS2, nS2, cS2, rfl, hs, hb⟩
  replace HC : Hid (Strs w9 ac1 nc cc1 rc) := HC.out.below hb (Nat.le_refl _)
  replace HR : Hid (Strs w9 ar1 nr cr1 rs) := HR.out.below hb (Nat.le_refl _)
  replace HM : Hid (Strs w9 am1 nm cm1 mt) := HM.out.below hb (Nat.le_refl _)
  replace HE : Hid (Flds w9 ae2 ne ce2 f) := HE.out.below hb (Nat.le_refl _)
  replace HH : Hid (Flds w9 ah2 nh ch2 g) := HH.out.below hb (Nat.le_refl _)
  replace S1 : Hid (Strs w9 aS1 nS1 cS1 (vals pn fld eo f ne g nh rc rs mt)) := S1.out.below hb (Nat.le_refl _)
  have S2 : Hid (Strs w9 aS2 nS2 cS2 (vals pn fld eo f ne g k rc rs mt)) := hs
  replace BB : Hid (Below w.heap.size w w9) := BB.out.trans (hb.mono BB.out.size)
  clear hb hs
  by_cases hck : ch2 = k
  · subst hck
    go_wp2_with fail
    refine Calls.mono (zz_any pn fld eo _ _ _ _ _ _ _ _ _ _ _ _ _ _ _ f (fun i => g (ch2 + i)) [] [] [] _ p1 p2 HP.out (flds_nil _ _) (flds_zero _ _ _) (strs_nil _) (strs_nil _) (strs_nil _) (by omega) (by omega) (by omega) (by omega)) ?_
    rintro e w10 ⟨aS3, nS3, cS3, rfl, hs, hb⟩
    replace HC : Hid (Strs w10 ac1 nc cc1 rc) := HC.out.below hb (Nat.le_refl _)
    replace HR : Hid (Strs w10 ar1 nr cr1 rs) := HR.out.below hb (Nat.le_refl _)
    replace HM : Hid (Strs w10 am1 nm cm1 mt) := HM.out.below hb (Nat.le_refl _)
    replace HE : Hid (Flds w10 ae2 ne ce2 f) := HE.out.below hb (Nat.le_refl _)
    replace HH : Hid (Flds w10 ah2 nh ch2 g) := HH.out.below hb (Nat.le_refl _)
    replace S1 : Hid (Strs w10 aS1 nS1 cS1 (vals pn fld eo f ne g nh rc rs mt)) := S1.out.below hb (Nat.le_refl _)
    replace S2 : Hid (Strs w10 aS2 nS2 cS2 (vals pn fld eo f ne g ch2 rc rs mt)) := S2.out.below hb (Nat.le_refl _)
    have S3 : Hid (Strs w10 aS3 nS3 cS3 (vals pn fld eo f 0 (fun i => g (ch2 + i)) 0 [] [] [])) := hs
    replace BB : Hid (Below w.heap.size w w10) := BB.out.trans (hb.mono BB.out.size)
    clear hb hs
    go_wp2_with fail
    refine Calls.mono (join_any _ _ _ _ _ _ _ _ _ S2.out S3.out (by rw [← S2.out.1]; exact vals_le _ _ _ _ _ _ _ _ _ _ b1 (by omega) BL3.out BL4.out) (by rw [← S3.out.1]; exact vals_le _ _ _ _ _ _ _ _ _ _ (by omega) (by omega) (by simp) (by simp))) ?_
    rintro e w11 ⟨x4, rfl, hs, hb⟩
    replace HC : Hid (Strs w11 ac1 nc cc1 rc) := HC.out.below hb (Nat.le_refl _)
    replace HR : Hid (Strs w11 ar1 nr cr1 rs) := HR.out.below hb (Nat.le_refl _)
    replace HM : Hid (Strs w11 am1 nm cm1 mt) := HM.out.below hb (Nat.le_refl _)
    replace HE : Hid (Flds w11 ae2 ne ce2 f) := HE.out.below hb (Nat.le_refl _)
    replace HH : Hid (Flds w11 ah2 nh ch2 g) := HH.out.below hb (Nat.le_refl _)
    replace S1 : Hid (Strs w11 aS1 nS1 cS1 (vals pn fld eo f ne g nh rc rs mt)) := S1.out.below hb (Nat.le_refl _)
    clear S2
    clear S3
    have S4 : Hid (Strs w11 (some x4) (nS2 + nS3) (nS2 + nS3) ((vals pn fld eo f ne g ch2 rc rs mt) ++ (vals pn fld eo f 0 (fun i => g (ch2 + i)) 0 [] [] []))) := hs
    replace BB : Hid (Below w.heap.size w w11) := BB.out.trans (hb.mono BB.out.size)
    clear hb hs
    go_wp2_with fail
    refine Calls.mono (same_eq _ _ _ _ _ _ _ _ _ S1.out S4.out (by have := vals_cut pn fld eo f f ne g nh ch2 rc rs mt hk; rwa [show nh - ch2 = 0 by omega] at this)) ?_
    rintro e w12 ⟨rfl, hb⟩
    replace HC : Hid (Strs w12 ac1 nc cc1 rc) := HC.out.below hb (Nat.le_refl _)
    replace HR : Hid (Strs w12 ar1 nr cr1 rs) := HR.out.below hb (Nat.le_refl _)
    replace HM : Hid (Strs w12 am1 nm cm1 mt) := HM.out.below hb (Nat.le_refl _)
    replace HE : Hid (Flds w12 ae2 ne ce2 f) := HE.out.below hb (Nat.le_refl _)
    replace HH : Hid (Flds w12 ah2 nh ch2 g) := HH.out.below hb (Nat.le_refl _)
    clear S1
    clear S4
    replace BB : Hid (Below w.heap.size w w12) := BB.out.trans (hb.mono BB.out.size)
    clear hb
    go_wp2_with fail
    refine Calls.mono (zz_any (-1) ⟨#[36, 97, 110, 121]⟩ eo _ _ _ _ _ _ _ _ _ _ _ _ _ _ _ f g rc rs mt _ (by omega) (by omega) HPA.out HE.out HH.out HC.out HR.out HM.out b1 b2 b3 b5) ?_
    rintro e w13 ⟨aS5, nS5, cS5, rfl, hs, hb⟩
    replace HC : Hid (Strs w13 ac1 nc cc1 rc) := HC.out.below hb (Nat.le_refl _)
    replace HR : Hid (Strs w13 ar1 nr cr1 rs) := HR.out.below hb (Nat.le_refl _)
    replace HM : Hid (Strs w13 am1 nm cm1 mt) := HM.out.below hb (Nat.le_refl _)
    replace HE : Hid (Flds w13 ae2 ne ce2 f) := HE.out.below hb (Nat.le_refl _)
    replace HH : Hid (Flds w13 ah2 nh ch2 g) := HH.out.below hb (Nat.le_refl _)
    have S5 : Hid (Strs w13 aS5 nS5 cS5 (vals (-1) ⟨#[36, 97, 110, 121]⟩ eo f ne g nh rc rs mt)) := hs
    replace BB : Hid (Below w.heap.size w w13) := BB.out.trans (hb.mono BB.out.size)
    clear hb hs
    have hl := S5.out.1
    rw [vals_any, HC.out.1] at hl
    clear S5 HE HH HC HR HM HP HPA q1 q2
    cases eo
    · have hl2 : (nS5 : Int) = (ne : Int) + (nc : Int) + (nh : Int) := by simp at hl; omega
      clear hl
      go_wp2_with fail
      go_ret
      exact ⟨rfl, BB.out⟩
    · have hl2 : (nS5 : Int) = (ne : Int) + (nc : Int) := by simp at hl; omega
      clear hl
      go_wp2_with fail
      go_ret
      exact ⟨rfl, BB.out⟩
  · go_wp2_with fail
    refine Calls.mono (zz_any pn fld eo _ _ _ _ _ _ _ _ _ _ _ _ _ _ _ f (fun i => g (k + i)) [] [] [] _ p1 p2 HP.out (flds_nil _ _) (HH.out.cutHigh hk hck) (strs_nil _) (strs_nil _) (strs_nil _) (by omega) (by omega) (by omega) (by omega)) ?_
    rintro e w10 ⟨aS3, nS3, cS3, rfl, hs, hb⟩
    replace HC : Hid (Strs w10 ac1 nc cc1 rc) := HC.out.below hb (Nat.le_refl _)
    replace HR : Hid (Strs w10 ar1 nr cr1 rs) := HR.out.below hb (Nat.le_refl _)
    replace HM : Hid (Strs w10 am1 nm cm1 mt) := HM.out.below hb (Nat.le_refl _)
    replace HE : Hid (Flds w10 ae2 ne ce2 f) := HE.out.below hb (Nat.le_refl _)
    replace HH : Hid (Flds w10 ah2 nh ch2 g) := HH.out.below hb (Nat.le_refl _)
    replace S1 : Hid (Strs w10 aS1 nS1 cS1 (vals pn fld eo f ne g nh rc rs mt)) := S1.out.below hb (Nat.le_refl _)
    replace S2 : Hid (Strs w10 aS2 nS2 cS2 (vals pn fld eo f ne g k rc rs mt)) := S2.out.below hb (Nat.le_refl _)
    have S3 : Hid (Strs w10 aS3 nS3 cS3 (vals pn fld eo f 0 (fun i => g (k + i)) (nh - k) [] [] [])) := hs
    replace BB : Hid (Below w.heap.size w w10) := BB.out.trans (hb.mono BB.out.size)
    clear hb hs
    go_wp2_with fail
    refine Calls.mono (join_any _ _ _ _ _ _ _ _ _ S2.out S3.out (by rw [← S2.out.1]; exact vals_le _ _ _ _ _ _ _ _ _ _ b1 (by omega) BL3.out BL4.out) (by rw [← S3.out.1]; exact vals_le _ _ _ _ _ _ _ _ _ _ (by omega) (by omega) (by simp) (by simp))) ?_
    rintro e w11 ⟨x4, rfl, hs, hb⟩
    replace HC : Hid (Strs w11 ac1 nc cc1 rc) := HC.out.below hb (Nat.le_refl _)
    replace HR : Hid (Strs w11 ar1 nr cr1 rs) := HR.out.below hb (Nat.le_refl _)
    replace HM : Hid (Strs w11 am1 nm cm1 mt) := HM.out.below hb (Nat.le_refl _)
    replace HE : Hid (Flds w11 ae2 ne ce2 f) := HE.out.below hb (Nat.le_refl _)
    replace HH : Hid (Flds w11 ah2 nh ch2 g) := HH.out.below hb (Nat.le_refl _)
    replace S1 : Hid (Strs w11 aS1 nS1 cS1 (vals pn fld eo f ne g nh rc rs mt)) := S1.out.below hb (Nat.le_refl _)
    clear S2
    clear S3
    have S4 : Hid (Strs w11 (some x4) (nS2 + nS3) (nS2 + nS3) ((vals pn fld eo f ne g k rc rs mt) ++ (vals pn fld eo f 0 (fun i => g (k + i)) (nh - k) [] [] []))) := hs
    replace BB : Hid (Below w.heap.size w w11) := BB.out.trans (hb.mono BB.out.size)
    clear hb hs
    go_wp2_with fail
    refine Calls.mono (same_eq _ _ _ _ _ _ _ _ _ S1.out S4.out (vals_cut _ _ _ _ _ _ _ _ _ _ _ _ hk)) ?_
    rintro e w12 ⟨rfl, hb⟩
    replace HC : Hid (Strs w12 ac1 nc cc1 rc) := HC.out.below hb (Nat.le_refl _)
    replace HR : Hid (Strs w12 ar1 nr cr1 rs) := HR.out.below hb (Nat.le_refl _)
    replace HM : Hid (Strs w12 am1 nm cm1 mt) := HM.out.below hb (Nat.le_refl _)
    replace HE : Hid (Flds w12 ae2 ne ce2 f) := HE.out.below hb (Nat.le_refl _)
    replace HH : Hid (Flds w12 ah2 nh ch2 g) := HH.out.below hb (Nat.le_refl _)
    clear S1
    clear S4
    replace BB : Hid (Below w.heap.size w w12) := BB.out.trans (hb.mono BB.out.size)
    clear hb
    go_wp2_with fail
    refine Calls.mono (zz_any (-1) ⟨#[36, 97, 110, 121]⟩ eo _ _ _ _ _ _ _ _ _ _ _ _ _ _ _ f g rc rs mt _ (by omega) (by omega) HPA.out HE.out HH.out HC.out HR.out HM.out b1 b2 b3 b5) ?_
    rintro e w13 ⟨aS5, nS5, cS5, rfl, hs, hb⟩
    replace HC : Hid (Strs w13 ac1 nc cc1 rc) := HC.out.below hb (Nat.le_refl _)
    replace HR : Hid (Strs w13 ar1 nr cr1 rs) := HR.out.below hb (Nat.le_refl _)
    replace HM : Hid (Strs w13 am1 nm cm1 mt) := HM.out.below hb (Nat.le_refl _)
    replace HE : Hid (Flds w13 ae2 ne ce2 f) := HE.out.below hb (Nat.le_refl _)
    replace HH : Hid (Flds w13 ah2 nh ch2 g) := HH.out.below hb (Nat.le_refl _)
    have S5 : Hid (Strs w13 aS5 nS5 cS5 (vals (-1) ⟨#[36, 97, 110, 121]⟩ eo f ne g nh rc rs mt)) := hs
    replace BB : Hid (Below w.heap.size w w13) := BB.out.trans (hb.mono BB.out.size)
    clear hb hs
    have hl := S5.out.1
    rw [vals_any, HC.out.1] at hl
    clear S5 HE HH HC HR HM HP HPA q1 q2
    cases eo
    · have hl2 : (nS5 : Int) = (ne : Int) + (nc : Int) + (nh : Int) := by simp at hl; omega
      clear hl
      go_wp2_with fail
      go_ret
      exact ⟨rfl, BB.out⟩
    · have hl2 : (nS5 : Int) = (ne : Int) + (nc : Int) := by simp at hl; omega
      clear hl
      go_wp2_with fail
      go_ret
      exact ⟨rfl, BB.out⟩

/-! ### The row's step -/
set_option maxRecDepth 100000 in
set_option maxHeartbeats 2000000 in
theorem lifted (os : Os) (started : os.Started) (H : Type) (enc : TypeId × Value → H) :
    ReturnsInHanded {} Try.checked os 3 .any (Rows.fnValuesCutHeaderAnywhereSpec.pre6 enc Try.prog Try.f3 Rows.fnValuesCutHeaderAnywhereRow.domain false) (Rows.fnValuesCutHeaderAnywhereSpec.post enc Try.prog Try.f3 false true false false) := by
  refine returnsInHanded_of_change (C := Try.checked) own started (by kernel_rfl) Try.func3
    (ChangeSpec.witness6 (enc := enc) (C := Try.checked) false ⟨#[], #[.slice none 0 0, .slice none 0 0, .slice none 0 0, .slice none 0 0, .slice none 0 0, .string ⟨#[]⟩, .bool false, .int .i64 0], []⟩ 8 (by kernel_rfl) (by kernel_rfl) (by kernel_rfl) (by kernel_rfl)) ?_
  intro W base args ds gs before hval0 hW hcnd _
  have hval : ∀ (j : Nat) t v, Try.f3.params[j]? = some t → args[j]? = some v → Value.okWide Try.prog W .any base t v := hval0
  have hW' := hW
  obtain ⟨p, q, hA0, hV, rfl, hfz, hnd⟩ := hW
  have hA : DataW.TrodAll enc Try.prog W 0 (fun _ => true) true Try.f3.params.toList args.toList ds p := hA0
  rw [Try.params3] at hA hval
  obtain ⟨v0, vs0, d0, ds0, p0, q0, hargs, rfl, rfl, h0, r0⟩ := trodAll_cons hA
  obtain ⟨v1, vs1, d1, ds1, p1, q1, rfl, rfl, rfl, h1, r1⟩ := trodAll_cons r0
  obtain ⟨v2, vs2, d2, ds2, p2, q2, rfl, rfl, rfl, h2, r2⟩ := trodAll_cons r1
  obtain ⟨v3, vs3, d3, ds3, p3, q3, rfl, rfl, rfl, h3, r3⟩ := trodAll_cons r2
  obtain ⟨v4, vs4, d4, ds4, p4, q4, rfl, rfl, rfl, h4, r4⟩ := trodAll_cons r3
  obtain ⟨v5, vs5, d5, ds5, p5, q5, rfl, rfl, rfl, h5, r5⟩ := trodAll_cons r4
  obtain ⟨v6, vs6, d6, ds6, p6, q6, rfl, rfl, rfl, h6, r6⟩ := trodAll_cons r5
  obtain ⟨v7, vs7, d7, ds7, p7, q7, rfl, rfl, rfl, h7, r7⟩ := trodAll_cons r6
  obtain ⟨rfl, rfl, rfl⟩ := trodAll_nil r7
  obtain rfl : args = #[v0, v1, v2, v3, v4, v5, v6, v7] := by cases args; simp_all
  obtain ⟨rfl, rfl⟩ := trodVars_none hV
  obtain ⟨a0, len0, cap0, rfl⟩ := okWide_slice Try.underlying22 (hval 0 22 v0 rfl rfl)
  have k0 := h0
  have lt0 : ∀ x ∈ p0, x.block < W.heap.size := by obtain ⟨m, hm⟩ := k0; exact DataW.trod_lt m _ _ _ hm
  obtain ⟨z0, w0⟩ : ∃ z, Flds W a0 len0 cap0 z := by
    obtain ⟨fuel, hf⟩ := h0
    exact open_F (by simpa [Value.cells] using hf)
  obtain ⟨a1, len1, cap1, rfl⟩ := okWide_slice Try.underlying22 (hval 1 22 v1 rfl rfl)
  have k1 := h1
  have lt1 : ∀ x ∈ p1, x.block < W.heap.size := by obtain ⟨m, hm⟩ := k1; exact DataW.trod_lt m _ _ _ hm
  obtain ⟨z1, w1⟩ : ∃ z, Flds W a1 len1 cap1 z := by
    obtain ⟨fuel, hf⟩ := h1
    exact open_F (by simpa [Value.cells] using hf)
  obtain ⟨a2, len2, cap2, rfl⟩ := okWide_slice Try.underlying23 (hval 2 23 v2 rfl rfl)
  have k2 := h2
  have lt2 : ∀ x ∈ p2, x.block < W.heap.size := by obtain ⟨m, hm⟩ := k2; exact DataW.trod_lt m _ _ _ hm
  obtain ⟨z2, w2⟩ : ∃ z, Strs W a2 len2 cap2 z := by
    obtain ⟨fuel, hf⟩ := h2
    exact open_S (by simpa [Value.cells] using hf)
  obtain ⟨a3, len3, cap3, rfl⟩ := okWide_slice Try.underlying23 (hval 3 23 v3 rfl rfl)
  have k3 := h3
  have lt3 : ∀ x ∈ p3, x.block < W.heap.size := by obtain ⟨m, hm⟩ := k3; exact DataW.trod_lt m _ _ _ hm
  obtain ⟨z3, w3⟩ : ∃ z, Strs W a3 len3 cap3 z := by
    obtain ⟨fuel, hf⟩ := h3
    exact open_S (by simpa [Value.cells] using hf)
  obtain ⟨a4, len4, cap4, rfl⟩ := okWide_slice Try.underlying23 (hval 4 23 v4 rfl rfl)
  have k4 := h4
  have lt4 : ∀ x ∈ p4, x.block < W.heap.size := by obtain ⟨m, hm⟩ := k4; exact DataW.trod_lt m _ _ _ hm
  obtain ⟨z4, w4⟩ : ∃ z, Strs W a4 len4 cap4 z := by
    obtain ⟨fuel, hf⟩ := h4
    exact open_S (by simpa [Value.cells] using hf)
  obtain ⟨a5, rfl, rfl, rfl, w5⟩ := open_string Try.underlying9 (hval 5 9 v5 rfl rfl) h5
  obtain ⟨a6, rfl, rfl, rfl⟩ := open_bool Try.underlying4 (hval 6 4 v6 rfl rfl) h6
  obtain ⟨a7, rfl, rfl, rfl, w7⟩ := open_int Try.underlying3 (hval 7 3 v7 rfl rfl) h7
  clear hA0 hval0
  refine (walk a0 a1 a2 a3 a4 len0 cap0 len1 cap1 len2 cap2 len3 cap3 len4 cap4 z0 z1 z2 z3 z4 a5 a6 a7 W w0 w1 w2 w3 w4).mono fun e W' ⟨he, bel⟩ => ?_
  subst he
  exact ⟨_, rfl, _, _, _, [], _, [], hW', trodAll_mk1 (shut_bool Try.underlying4 _), (trodAll_cons_mk (Below.trod laidOut (by kernel_rfl) (of_decide_eq_true (by kernel_rfl)) k0 bel lt0) (trodAll_cons_mk (Below.trod laidOut (by kernel_rfl) (of_decide_eq_true (by kernel_rfl)) k1 bel lt1) (trodAll_cons_mk (Below.trod laidOut (by kernel_rfl) (of_decide_eq_true (by kernel_rfl)) k2 bel lt2) (trodAll_cons_mk (Below.trod laidOut (by kernel_rfl) (of_decide_eq_true (by kernel_rfl)) k3 bel lt3) (trodAll_cons_mk (Below.trod laidOut (by kernel_rfl) (of_decide_eq_true (by kernel_rfl)) k4 bel lt4) (trodAll_cons_mk (shut_string Try.underlying9 w5) (trodAll_cons_mk (shut_bool Try.underlying4 _) (trodAll_cons_mk (shut_int Try.underlying3 w7) trodAll_mk0)))))))), rfl, bel.frame _, fun h => by cases h⟩

theorem over : Rows.fnValuesCutHeaderAnywhereRow.holds Try.pinned (OpenSpec.ofChange Rows.fnValuesCutHeaderAnywhereSpec) :=
  OpenClaim.holds_of_wide 3 Try.f3 rfl rfl rfl rfl rfl rfl rfl ⟨rfl, rfl, rfl, rfl, rfl⟩ rfl rfl rfl rfl rfl (by kernel_rfl) Try.func3 (by kernel_rfl)
    (of_decide_eq_true (by kernel_rfl)) (by unfold Func.isWrapper; first | (rw [if_pos (by decide +kernel)]; kernel_rfl) | (rw [if_neg (by decide +kernel)]; exact ⟨rfl, rfl⟩))
    (fun os started H enc _ => lifted os started H enc)

theorem proved : Rows.FnValuesCutHeaderAnywhereSaid :=
  over
#print axioms proved
end Go.Proofs.Qxb6618614a.fnValuesCutHeaderAnywhere
