import Derived.Test.Qxb6618614aValues
namespace Go.Proofs.Qxb6618614a.Vals
open Go.ChangeShapes Go.WideShapes Go.RowKit
set_option linter.unusedVariables false

theorem two_new (w : World) (A B : Obj) : Below w.heap.size w ((w.alloc A).alloc B) := ((Below.refl _ _).alloc (Nat.le_refl _) _).alloc (by simp) _

set_option maxHeartbeats 2000000 in
theorem zz_any (pn : Int) (fld : ByteArray) (eo : Bool) (ae ah ac ar am : Option Addr) (ne ce nh ch nc cc nr cr nm cm : Nat) (f g : Nat → ByteArray × ByteArray) (rc rs mt : List ByteArray) (w : World)
    (hp1 : -1 ≤ pn) (hp2 : pn ≤ 9) (hph : ∀ w, Calls Try.prog 15 #[.string fld] w fun e w' => e = .returned (.int .i64 pn) ∧ w = w')
    (he : Flds w ae ne ce f) (hh : Flds w ah nh ch g) (hc : Strs w ac nc cc rc) (hr : Strs w ar nr cr rs) (hm : Strs w am nm cm mt) (be : ne ≤ 1048576) (bh : nh ≤ 1048576) (bc : nc ≤ 1048576) (bm : nm ≤ 1048576) :
    Calls Try.prog 9 #[.slice ae ne ce, .slice ah nh ch, .slice ac nc cc, .slice ar nr cr, .slice am nm cm, .string fld, .bool eo] w fun e w' => ∃ a n c, e = .returned (.slice a n c) ∧ Strs w' a n c (vals pn fld eo f ne g nh rc rs mt) ∧ Below w.heap.size w w' := by
  have HE : Hid (Flds w ae ne ce f) := he
  have HH : Hid (Flds w ah nh ch g) := hh
  have HC : Hid (Strs w ac nc cc rc) := hc
  have HR : Hid (Strs w ar nr cr rs) := hr
  have HM : Hid (Strs w am nm cm mt) := hm
  have HP : Hid (_) := hph
  clear he hh hc hr hm hph
  go_enter Try.func9, Try.ntmps9
  go_wp2_with fail
  refine Calls.mono (values_any (w.heap.size + 1) w.heap.size pn fld eo ae ah ac ar am ne ce nh ch nc cc nr cr nm cm f g rc rs mt _ hp1 hp2 HP.out (by simp) (by simp) (by simp) (by simp) (by simp) (by simp) (by simp) (by simp; omega) (by simp)
    (HE.out.below (two_new w _ _) (Nat.le_refl _)) (HH.out.below (two_new w _ _) (Nat.le_refl _)) (HC.out.below (two_new w _ _) (Nat.le_refl _)) (HR.out.below (two_new w _ _) (Nat.le_refl _)) (HM.out.below (two_new w _ _) (Nat.le_refl _)) be bh bc bm) ?_
  rintro e w2 ⟨a, n, c, rfl, hs, hb⟩
  have HS : Hid (Strs w2 a n c (vals pn fld eo f ne g nh rc rs mt)) := hs
  have HB : Hid (Below w.heap.size w w2) := (two_new w _ _).trans (hb.mono (by simp; omega))
  clear hs hb
  go_wp2_with fail
  go_ret
  exact ⟨_, _, _, rfl, HS.out, HB.out⟩

/-- The count that is used up, and whether it is too much. -/
def Used (e : Ending) : Prop := ∃ (u : Int) (b : Bool), e = .returned (.tuple #[.int .i64 u, .bool b]) ∧ 0 ≤ u ∧ u ≤ 1048576

set_option maxHeartbeats 2000000 in
theorem fields_bytes (a : Option Addr) (len cap : Nat) (f : Nat → ByteArray × ByteArray) (u : Int) (w : World) (hs : Flds w a len cap f) (h0 : 0 ≤ u) (h1 : u ≤ 1048576) :
    Calls Try.prog 12 #[.slice a len cap, .int .i64 u] w fun e w' => Used e ∧ w = w' := by
  obtain ⟨g1, g2, hs⟩ := hs
  unfold maxLen at g2
  have HS : Hid (_) := hs
  clear hs
  go_enter Try.func12, Try.ntmps12
  go_wp2
  go_loop [1, 6] (fun x i => ∃ (q : Nat) (y : Int), q ≤ len ∧ i = .int .i64 q ∧ x = .int .i64 y ∧ 0 ≤ y ∧ y ≤ 1048576) (fun _ i => len - (intOf i).toNat)
  case atStart => exact ⟨0, u, Nat.zero_le _, rfl, rfl, h0, h1⟩
  case round =>
    obtain ⟨q, y, hq, rfl, rfl, y0, y1⟩ := hrel
    by_cases hlt : q < len
    · obtain ⟨b, o, he, hbs, hc⟩ := (show _ ∨ _ from HS.out).resolve_left (fun h => by omega)
      cases he
      have k1 := (hc q hlt).1
      have k2 := (hc q hlt).2
      obtain ⟨s1, hs1⟩ : ∃ s, s = (f q).1 := ⟨_, rfl⟩
      obtain ⟨s2, hs2⟩ : ∃ s, s = (f q).2 := ⟨_, rfl⟩
      rw [← hs1] at k1
      rw [← hs2] at k2
      clear hc hbs hs1 hs2
      have p1 : 0 ≤ (s1.size : Int) := by omega
      have p2 : 0 ≤ (s2.size : Int) := by omega
      go_wp2
      · go_ret2
        exact ⟨⟨_, _, rfl, y0, y1⟩, rfl⟩
      · go_ret2
        exact ⟨⟨_, _, rfl, by omega, by omega⟩, rfl⟩
      · go_ret2
        exact ⟨⟨_, _, rfl, by omega, by omega⟩, rfl⟩
      · go_round
        case rel => exact ⟨q + 1, _, by omega, by go_num, rfl, by omega, by omega⟩
        case measure => simp [intOf]; omega
    · obtain rfl : q = len := by omega
      go_wp2
      go_ret2
      exact ⟨⟨_, _, rfl, y0, y1⟩, rfl⟩

set_option maxHeartbeats 2000000 in
theorem strings_bytes (a : Option Addr) (len cap : Nat) (l : List ByteArray) (u : Int) (w : World) (hs : Strs w a len cap l) (h0 : 0 ≤ u) (h1 : u ≤ 1048576) :
    Calls Try.prog 13 #[.slice a len cap, .int .i64 u] w fun e w' => Used e ∧ w = w' := by
  obtain ⟨g0, g1, g2, hs⟩ := hs
  unfold maxLen at g2
  have HS : Hid (_) := hs
  clear hs
  go_enter Try.func13, Try.ntmps13
  go_wp2
  go_loop [1, 6] (fun x i => ∃ (q : Nat) (y : Int), q ≤ len ∧ i = .int .i64 q ∧ x = .int .i64 y ∧ 0 ≤ y ∧ y ≤ 1048576) (fun _ i => len - (intOf i).toNat)
  case atStart => exact ⟨0, u, Nat.zero_le _, rfl, rfl, h0, h1⟩
  case round =>
    obtain ⟨q, y, hq, rfl, rfl, y0, y1⟩ := hrel
    by_cases hlt : q < len
    · obtain ⟨b, o, he, hbs, hc⟩ := (show _ ∨ _ from HS.out).resolve_left (fun h => by omega)
      cases he
      obtain ⟨s1, hs1⟩ : ∃ s, l[q]? = some s := ⟨l[q]'(by omega), List.getElem?_eq_getElem (by omega)⟩
      have k1 := hc q s1 hs1
      clear hc hbs hs1
      have p1 : 0 ≤ (s1.size : Int) := by omega
      go_wp2
      · go_ret2
        exact ⟨⟨_, _, rfl, y0, y1⟩, rfl⟩
      · go_ret2
        exact ⟨⟨_, _, rfl, by omega, by omega⟩, rfl⟩
      · go_round
        case rel => exact ⟨q + 1, _, by omega, by go_num, rfl, by omega, by omega⟩
        case measure => simp [intOf]; omega
    · obtain rfl : q = len := by omega
      go_wp2
      go_ret2
      exact ⟨⟨_, _, rfl, y0, y1⟩, rfl⟩

/-- some bool -/
def SomeB (e : Ending) : Prop := ∃ b : Bool, e = .returned (.bool b)

set_option maxHeartbeats 2000000 in
theorem too_big (ae ah ac ar am : Option Addr) (ne ce nh ch nc cc nr cr nm cm : Nat) (f g : Nat → ByteArray × ByteArray) (rc rs mt : List ByteArray) (fld : ByteArray) (w : World)
    (he : Flds w ae ne ce f) (hh : Flds w ah nh ch g) (hc : Strs w ac nc cc rc) (hr : Strs w ar nr cr rs) (hm : Strs w am nm cm mt) :
    Calls Try.prog 5 #[.slice ae ne ce, .slice ah nh ch, .slice ac nc cc, .slice ar nr cr, .slice am nm cm, .string fld] w fun e w' => SomeB e ∧ w = w' := by
  have HE : Hid (_) := fun u a b => fields_bytes ae ne ce f u w he a b
  have HH : Hid (_) := fun u a b => fields_bytes ah nh ch g u w hh a b
  have HC : Hid (_) := fun u a b => strings_bytes ac nc cc rc u w hc a b
  have HR : Hid (_) := fun u a b => strings_bytes ar nr cr rs u w hr a b
  have HM : Hid (_) := fun u a b => strings_bytes am nm cm mt u w hm a b
  clear he hh hc hr hm
  by_cases h0 : (fld.size : Int) ≤ 1048576
  · have h1 : 0 ≤ (fld.size : Int) := by omega
    go_enter Try.func5, Try.ntmps5
    go_wp2_with fail
    refine Calls.mono (HE.out _ h1 h0) ?_
    rintro e w' ⟨⟨u1, b1, rfl, p1, p2⟩, rfl⟩
    cases b1
    · go_wp2_with fail
      refine Calls.mono (HH.out _ p1 p2) ?_
      rintro e w' ⟨⟨u2, b2, rfl, p3, p4⟩, rfl⟩
      cases b2
      · go_wp2_with fail
        refine Calls.mono (HC.out _ p3 p4) ?_
        rintro e w' ⟨⟨u3, b3, rfl, p5, p6⟩, rfl⟩
        cases b3
        · go_wp2_with fail
          refine Calls.mono (HR.out _ p5 p6) ?_
          rintro e w' ⟨⟨u4, b4, rfl, p7, p8⟩, rfl⟩
          cases b4
          · go_wp2_with fail
            refine Calls.mono (HM.out _ p7 p8) ?_
            rintro e w' ⟨⟨u5, b5, rfl, p9, p10⟩, rfl⟩
            go_wp2_with fail
            go_ret
            exact ⟨⟨_, rfl⟩, rfl⟩
          · go_wp2_with fail
            go_ret
            exact ⟨⟨_, rfl⟩, rfl⟩
        · go_wp2_with fail
          go_ret
          exact ⟨⟨_, rfl⟩, rfl⟩
      · go_wp2_with fail
        go_ret
        exact ⟨⟨_, rfl⟩, rfl⟩
    · go_wp2_with fail
      go_ret
      exact ⟨⟨_, rfl⟩, rfl⟩
  · go_enter Try.func5, Try.ntmps5
    go_wp2_with fail
    go_ret
    exact ⟨⟨_, rfl⟩, rfl⟩
end Go.Proofs.Qxb6618614a.Vals
