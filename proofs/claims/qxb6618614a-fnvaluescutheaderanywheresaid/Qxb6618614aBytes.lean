import Derived.Test.Qxb6618614aSmall
namespace Go.Proofs.Qxb6618614a.Vals
open Go.ChangeShapes Go.WideShapes Go.RowKit
set_option linter.unusedVariables false

/-- A bool; if it is true, each of the five lengths is at most 2 ^ 20. -/
def BytesOk (ne nh nc nr nm : Nat) (e : Ending) : Prop := ∃ b : Bool, e = .returned (.bool b) ∧ (b = true → ne ≤ 1048576 ∧ nh ≤ 1048576 ∧ nc ≤ 1048576 ∧ nr ≤ 1048576 ∧ nm ≤ 1048576)

set_option maxRecDepth 100000 in
set_option maxHeartbeats 8000000 in
theorem bytes_any (ae ah ac ar am : Option Addr) (ne ce nh ch nc cc nr cr nm cm : Nat) (f g : Nat → ByteArray × ByteArray) (rc rs mt : List ByteArray) (fld : ByteArray) (eo : Bool) (k : Int) (w : World)
    (he : Flds w ae ne ce f) (hh : Flds w ah nh ch g) (hc : Strs w ac nc cc rc) (hr : Strs w ar nr cr rs) (hm : Strs w am nm cm mt) :
    Calls Try.prog 4 #[.slice ae ne ce, .slice ah nh ch, .slice ac nc cc, .slice ar nr cr, .slice am nm cm, .string fld, .bool eo, .int .i64 k] w fun e w' => BytesOk ne nh nc nr nm e ∧ w = w' := by
  obtain ⟨x1, x2, he⟩ := he
  obtain ⟨x3, x4, hh⟩ := hh
  obtain ⟨x5, x6, x7, hc⟩ := hc
  obtain ⟨x8, x9, x10, hr⟩ := hr
  obtain ⟨x11, x12, x13, hm⟩ := hm
  unfold maxLen at x2 x4 x7 x10 x13
  have H1 : Hid (_) := he
  have H2 : Hid (_) := hh
  have H3 : Hid (_) := hc
  have H4 : Hid (_) := hr
  have H5 : Hid (_) := hm
  have L3 : Hid (_) := x5
  have L4 : Hid (_) := x8
  have L5 : Hid (_) := x11
  clear he hh hc hr hm x5 x8 x11
  go_enter Try.func4, Try.ntmps4
  by_cases a0 : (ne : Int) ≤ 1048576
  · go_wp2
    go_loop [17, 18] (fun x i => ∃ (q : Nat) (y : Int), q ≤ ne ∧ i = .int .i64 q ∧ x = .int .i64 y ∧ 0 ≤ y ∧ y ≤ 1048576) (fun _ i => ne - (intOf i).toNat)
    case atStart => exact ⟨0, (ne : Int), Nat.zero_le _, rfl, rfl, by omega, by omega⟩
    case round =>
      obtain ⟨q0, y0, hq0, rfl, rfl, ya0, yb0⟩ := hrel
      by_cases hlt0 : q0 < ne
      · obtain ⟨b, o, he, hbs, hc⟩ := (show _ ∨ _ from H1.out).resolve_left (fun h => by omega)
        cases he
        have k1 := (hc q0 hlt0).1
        have k2 := (hc q0 hlt0).2
        obtain ⟨s1, hs1⟩ : ∃ s, s = (f q0).1 := ⟨_, rfl⟩
        obtain ⟨s2, hs2⟩ : ∃ s, s = (f q0).2 := ⟨_, rfl⟩
        rw [← hs1] at k1
        rw [← hs2] at k2
        clear hc hbs hs1 hs2
        have p1 : 0 ≤ (s1.size : Int) := by omega
        have p2 : 0 ≤ (s2.size : Int) := by omega
        go_wp2
        · go_ret
          exact ⟨⟨_, rfl, fun h => by cases h⟩, rfl⟩
        · go_ret
          exact ⟨⟨_, rfl, fun h => by cases h⟩, rfl⟩
        · go_ret
          exact ⟨⟨_, rfl, fun h => by cases h⟩, rfl⟩
        · go_ret
          exact ⟨⟨_, rfl, fun h => by cases h⟩, rfl⟩
        · go_round
          case rel => exact ⟨q0 + 1, _, by omega, by go_num, rfl, by omega, by omega⟩
          case measure => simp [intOf]; omega
      · obtain rfl : q0 = ne := by omega
        by_cases a1 : (nh : Int) ≤ 1048576
        · by_cases b1 : y0 + (nh : Int) ≤ 1048576
          · go_wp2
            go_loop [17, 19] (fun x i => ∃ (q : Nat) (y : Int), q ≤ nh ∧ i = .int .i64 q ∧ x = .int .i64 y ∧ 0 ≤ y ∧ y ≤ 1048576) (fun _ i => nh - (intOf i).toNat)
            case atStart => exact ⟨0, y0 + (nh : Int), Nat.zero_le _, rfl, rfl, by omega, by omega⟩
            case round =>
              obtain ⟨q1, y1, hq1, rfl, rfl, ya1, yb1⟩ := hrel
              by_cases hlt1 : q1 < nh
              · obtain ⟨b, o, he, hbs, hc⟩ := (show _ ∨ _ from H2.out).resolve_left (fun h => by omega)
                cases he
                have k1 := (hc q1 hlt1).1
                have k2 := (hc q1 hlt1).2
                obtain ⟨s1, hs1⟩ : ∃ s, s = (g q1).1 := ⟨_, rfl⟩
                obtain ⟨s2, hs2⟩ : ∃ s, s = (g q1).2 := ⟨_, rfl⟩
                rw [← hs1] at k1
                rw [← hs2] at k2
                clear hc hbs hs1 hs2
                have p1 : 0 ≤ (s1.size : Int) := by omega
                have p2 : 0 ≤ (s2.size : Int) := by omega
                go_wp2
                · go_ret
                  exact ⟨⟨_, rfl, fun h => by cases h⟩, rfl⟩
                · go_ret
                  exact ⟨⟨_, rfl, fun h => by cases h⟩, rfl⟩
                · go_ret
                  exact ⟨⟨_, rfl, fun h => by cases h⟩, rfl⟩
                · go_ret
                  exact ⟨⟨_, rfl, fun h => by cases h⟩, rfl⟩
                · go_round
                  case rel => exact ⟨q1 + 1, _, by omega, by go_num, rfl, by omega, by omega⟩
                  case measure => simp [intOf]; omega
              · obtain rfl : q1 = nh := by omega
                by_cases a2 : (nc : Int) ≤ 1048576
                · by_cases b2 : y1 + (nc : Int) ≤ 1048576
                  · go_wp2
                    go_loop [17, 20] (fun x i => ∃ (q : Nat) (y : Int), q ≤ nc ∧ i = .int .i64 q ∧ x = .int .i64 y ∧ 0 ≤ y ∧ y ≤ 1048576) (fun _ i => nc - (intOf i).toNat)
                    case atStart => exact ⟨0, y1 + (nc : Int), Nat.zero_le _, rfl, rfl, by omega, by omega⟩
                    case round =>
                      obtain ⟨q2, y2, hq2, rfl, rfl, ya2, yb2⟩ := hrel
                      by_cases hlt2 : q2 < nc
                      · obtain ⟨b, o, he, hbs, hc⟩ := (show _ ∨ _ from H3.out).resolve_left (fun h => by omega)
                        cases he
                        have hlen := L3.out
                        obtain ⟨s1, hs1⟩ : ∃ s, rc[q2]? = some s := ⟨rc[q2]'(by omega), List.getElem?_eq_getElem (by omega)⟩
                        have k1 := hc q2 s1 hs1
                        clear hc hbs hs1 hlen
                        have p1 : 0 ≤ (s1.size : Int) := by omega
                        go_wp2
                        · go_ret
                          exact ⟨⟨_, rfl, fun h => by cases h⟩, rfl⟩
                        · go_ret
                          exact ⟨⟨_, rfl, fun h => by cases h⟩, rfl⟩
                        · go_round
                          case rel => exact ⟨q2 + 1, _, by omega, by go_num, rfl, by omega, by omega⟩
                          case measure => simp [intOf]; omega
                      · obtain rfl : q2 = nc := by omega
                        by_cases a3 : (nr : Int) ≤ 1048576
                        · by_cases b3 : y2 + (nr : Int) ≤ 1048576
                          · go_wp2
                            go_loop [17, 21] (fun x i => ∃ (q : Nat) (y : Int), q ≤ nr ∧ i = .int .i64 q ∧ x = .int .i64 y ∧ 0 ≤ y ∧ y ≤ 1048576) (fun _ i => nr - (intOf i).toNat)
                            case atStart => exact ⟨0, y2 + (nr : Int), Nat.zero_le _, rfl, rfl, by omega, by omega⟩
                            case round =>
                              obtain ⟨q3, y3, hq3, rfl, rfl, ya3, yb3⟩ := hrel
                              by_cases hlt3 : q3 < nr
                              · obtain ⟨b, o, he, hbs, hc⟩ := (show _ ∨ _ from H4.out).resolve_left (fun h => by omega)
                                cases he
                                have hlen := L4.out
                                obtain ⟨s1, hs1⟩ : ∃ s, rs[q3]? = some s := ⟨rs[q3]'(by omega), List.getElem?_eq_getElem (by omega)⟩
                                have k1 := hc q3 s1 hs1
                                clear hc hbs hs1 hlen
                                have p1 : 0 ≤ (s1.size : Int) := by omega
                                go_wp2
                                · go_ret
                                  exact ⟨⟨_, rfl, fun h => by cases h⟩, rfl⟩
                                · go_ret
                                  exact ⟨⟨_, rfl, fun h => by cases h⟩, rfl⟩
                                · go_round
                                  case rel => exact ⟨q3 + 1, _, by omega, by go_num, rfl, by omega, by omega⟩
                                  case measure => simp [intOf]; omega
                              · obtain rfl : q3 = nr := by omega
                                by_cases a4 : (nm : Int) ≤ 1048576
                                · by_cases b4 : y3 + (nm : Int) ≤ 1048576
                                  · go_wp2
                                    go_loop [17, 22] (fun x i => ∃ (q : Nat) (y : Int), q ≤ nm ∧ i = .int .i64 q ∧ x = .int .i64 y ∧ 0 ≤ y ∧ y ≤ 1048576) (fun _ i => nm - (intOf i).toNat)
                                    case atStart => exact ⟨0, y3 + (nm : Int), Nat.zero_le _, rfl, rfl, by omega, by omega⟩
                                    case round =>
                                      obtain ⟨q4, y4, hq4, rfl, rfl, ya4, yb4⟩ := hrel
                                      by_cases hlt4 : q4 < nm
                                      · obtain ⟨b, o, he, hbs, hc⟩ := (show _ ∨ _ from H5.out).resolve_left (fun h => by omega)
                                        cases he
                                        have hlen := L5.out
                                        obtain ⟨s1, hs1⟩ : ∃ s, mt[q4]? = some s := ⟨mt[q4]'(by omega), List.getElem?_eq_getElem (by omega)⟩
                                        have k1 := hc q4 s1 hs1
                                        clear hc hbs hs1 hlen
                                        have p1 : 0 ≤ (s1.size : Int) := by omega
                                        go_wp2
                                        · go_ret
                                          exact ⟨⟨_, rfl, fun h => by cases h⟩, rfl⟩
                                        · go_ret
                                          exact ⟨⟨_, rfl, fun h => by cases h⟩, rfl⟩
                                        · go_round
                                          case rel => exact ⟨q4 + 1, _, by omega, by go_num, rfl, by omega, by omega⟩
                                          case measure => simp [intOf]; omega
                                      · obtain rfl : q4 = nm := by omega
                                        by_cases c1 : (fld.size : Int) ≤ 1048576
                                        · by_cases c2 : y4 + (fld.size : Int) ≤ 1048576
                                          · have p0 : 0 ≤ (fld.size : Int) := by omega
                                            go_wp2
                                            go_ret
                                            exact ⟨⟨_, rfl, fun _ => ⟨by omega, by omega, by omega, by omega, by omega⟩⟩, rfl⟩
                                          · have p0 : 0 ≤ (fld.size : Int) := by omega
                                            go_wp2
                                            go_ret
                                            exact ⟨⟨_, rfl, fun h => by cases h⟩, rfl⟩
                                        · go_wp2
                                          go_ret
                                          exact ⟨⟨_, rfl, fun h => by cases h⟩, rfl⟩
                                  · go_wp2
                                    go_ret
                                    exact ⟨⟨_, rfl, fun h => by cases h⟩, rfl⟩
                                · go_wp2
                                  go_ret
                                  exact ⟨⟨_, rfl, fun h => by cases h⟩, rfl⟩
                          · go_wp2
                            go_ret
                            exact ⟨⟨_, rfl, fun h => by cases h⟩, rfl⟩
                        · go_wp2
                          go_ret
                          exact ⟨⟨_, rfl, fun h => by cases h⟩, rfl⟩
                  · go_wp2
                    go_ret
                    exact ⟨⟨_, rfl, fun h => by cases h⟩, rfl⟩
                · go_wp2
                  go_ret
                  exact ⟨⟨_, rfl, fun h => by cases h⟩, rfl⟩
          · go_wp2
            go_ret
            exact ⟨⟨_, rfl, fun h => by cases h⟩, rfl⟩
        · go_wp2
          go_ret
          exact ⟨⟨_, rfl, fun h => by cases h⟩, rfl⟩
  · go_wp2
    go_ret
    exact ⟨⟨_, rfl, fun h => by cases h⟩, rfl⟩
end Go.Proofs.Qxb6618614a.Vals
