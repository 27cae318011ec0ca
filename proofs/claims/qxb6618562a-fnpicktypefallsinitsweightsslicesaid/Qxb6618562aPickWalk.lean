/- The contracts of pickType and of a source's type by its index. -/
import Derived.Test.Qxb6618562aSrc
import Derived.Test.Qxb6618562aPick
import Derived.Deep.RegionHeld3
import Derived.Deep.RegionWith
import Derived.Deep.DeepCutAuto
namespace Go.Proofs.Qxb6618562a.Src
open Go.ChangeShapes Go.WideShapes Go.ChangeAt Go.RowKit
set_option linter.unusedVariables false

theorem drop_at (n : Nat) (ws : Nat → Nat) (k : Nat) (h : k < n) : ((List.range n).map ws).drop k = ws k :: ((List.range n).map ws).drop (k + 1) := by
  rw [List.drop_eq_getElem_cons (by simpa using h)]
  simp

set_option maxHeartbeats 2000000 in
theorem pick21 (tb n : Nat) (ws : Nat → Nat) (total F : Nat) (hi lo : Int) (w : World) (hn : n ≤ 100000) (hn0 : 0 < n) (h1 : Pcg.Word hi) (h2 : Pcg.Word lo) (hs : SrcAt w tb n ws total hi lo)
    (hF : Ieee.double.div (floatOfInt .f64 (Pcg.k53 hi lo)) 4845873199050653696 = some F) :
    Calls Try.prog 21 #[.pointer (some ⟨tb + 1 + n + 4, 0, none⟩)] w fun e w' =>
      e = .returned (.pointer (some ⟨tb + 1 + Fl.pick (Ieee.double.mul F total) ((List.range n).map ws) 0 0, 0, none⟩)) ∧ Pcg.Only (tb + 1 + n + 1) w w' := by
  obtain ⟨sb, hsb⟩ : ∃ x, x = tb + 1 + n + 4 := ⟨_, rfl⟩
  obtain ⟨wb, hwb⟩ : ∃ x, x = tb + 1 + n := ⟨_, rfl⟩
  obtain ⟨rb, hrb⟩ : ∃ x, x = tb + 1 + n + 2 := ⟨_, rfl⟩
  obtain ⟨pb, hpb⟩ : ∃ x, x = tb + 1 + n + 1 := ⟨_, rfl⟩
  obtain ⟨g0, g1, g2, g3, g4, g5, g6, g7, g8, g9, g10, g11, g12⟩ := hs
  rw [← hsb] at g0 g1 g11
  rw [← hwb] at g0 g2 g3
  rw [← hrb] at g1 g4
  rw [← hpb] at g4 g5 g6 g7 g8
  rw [← hsb, ← hpb]
  have n1 : sb ≠ pb := by omega
  have n2 : wb ≠ pb := by omega
  have n3 : ∀ i, i ≤ n → tb + i ≠ pb := by omega
  have HF : Hid (_) := fun wx a b c d e => Pcg.float64_of hi lo rb pb F wx h1 h2 a b c d e hF
  have H9 : Hid (_) := g9
  have H10 : Hid (_) := g10
  have HN : Hid (_) := n3
  clear g12 g9 g10 hsb hwb hrb hpb hF h1 h2 n3
  show Calls Try.prog 21 _ w fun e w' => e = .returned (.pointer (some ⟨tb + 1 + Fl.pick (floatBits .mul .f64 F total) ((List.range n).map ws) 0 0, 0, none⟩)) ∧ Pcg.Only pb w w'
  obtain ⟨u0, hu0⟩ : ∃ u, u = floatBits .mul .f64 F total := ⟨_, rfl⟩
  rw [← hu0]
  obtain ⟨z, m0, hz, hrel0⟩ := Fl.run_arith Try.prog .mul (Or.inr rfl) F total
  rw [← hu0] at hrel0
  have HZ : Hid (_) := hrel0
  clear hu0 hrel0
  go_enter Try.func21, Try.ntmps21
  go_upto_region 1 with fail
  go_cut [3] (fun u wx => ∃ x, u = .float .f64 x ∧ Fl.Rel x u0 ∧ Pcg.Only pb w wx)
  case first =>
    go_region_with ((go_at_call 20; refine (HF.out _ (by exact g4) (by exact g5) (by exact g6) (by exact g7) (by exact g8)).mono ?_; rintro e w' ⟨rfl, ho⟩; have q0 := (ho.cell (p := ⟨sb, 0, none⟩) n1).trans g0; have q3 := (ho.cell (p := ⟨wb, 15, none⟩) n2).trans g3))
    all_goals
      go_wp2_with fail
      go_meet
      exact ⟨_, rfl, HZ.out _, ⟨ho.os, ho.tape, ho.output, ho.size, ho.block⟩⟩
  case rest =>
    obtain ⟨x0, rfl, hrel, ho⟩ := hcut
    have k0 : wc.cell? ⟨sb, 0, none⟩ = some (.pointer (some ⟨wb, 0, none⟩)) := (ho.cell n1).trans g0
    have k2 : wc.cell? ⟨wb, 8, none⟩ = some (.slice (some ⟨tb, 0, none⟩) n n) := (ho.cell n2).trans g2
    have K9 : Hid (∀ i, i < n → wc.cell? ⟨tb, i, none⟩ = some (.pointer (some ⟨tb + 1 + i, 0, none⟩))) := fun i hi => (ho.cell (HN.out 0 (by omega))).trans (H9.out i hi)
    have K10 : Hid (∀ i, i < n → wc.cell? ⟨tb + 1 + i, 2, none⟩ = some (.float .f64 (ws i))) := fun i hi => (ho.cell (by have := HN.out (1 + i) (by omega); simpa [Nat.add_assoc] using this)).trans (H10.out i hi)
    have HO : Hid (Pcg.Only pb w wc) := ho
    have R0 : Hid (Fl.Rel x0 u0) := hrel
    have c0 := K9.out 0 hn0
    have hp : (0 : Int) < (n : Int) := by omega
    clear ho g0 g1 g2 g3 g4 g5 g6 g7 g8 H9 H10 HN hz HZ HF n1 n2 hrel
    go_wp2
    clear k0 k2 c0
    go_loopw [3, 4, 37] (fun u last i wr => ∃ (k x : Nat) (uo : Option Nat) (l : Nat), k ≤ n ∧ i = .int .i64 k ∧ u = .float .f64 x ∧ last = .pointer (some ⟨tb + 1 + l, 0, none⟩) ∧ Fl.Rel x uo ∧ l < n ∧ Hid (Fl.pick u0 ((List.range n).map ws) 0 0 = Fl.pick uo (((List.range n).map ws).drop k) k l) ∧ ∃ m, wr = wc.drewN m) (fun _ _ i _ => n - (intOf i).toNat)
    case atStart => exact ⟨0, x0, u0, 0, Nat.zero_le _, rfl, rfl, rfl, R0.out, hn0, rfl, 0, rfl⟩
    case round =>
      obtain ⟨k, x, uo, l, hk, rfl, rfl, rfl, hrel, hl, HP, m, rfl⟩ := hrel
      by_cases hlt : k < n
      · have c1 := K9.out k hlt
        have c2 := K10.out k hlt
        have hd := drop_at n ws k hlt
        have HP2 : Hid (_) := HP.out.trans (by rw [hd, Fl.pick])
        clear hd HP
        have HRL : Hid (_) := hrel
        obtain ⟨zs, ms, hzs, hzr⟩ := Fl.sub_any Try.prog x (ws k) uo hrel
        have HZR : Hid (_) := hzr
        have HLR : Hid ((FloatKind.f64.format.order x (ws k) == some Ordering.lt) = Fl.ltO uo (ws k)) := Fl.lt_rel hrel (ws k)
        clear hrel hzr
        cases hzero : (FloatKind.f64.format.order (ws k) 0 == some Ordering.eq)
        · have HZ0 : Hid (Fl.zeroW (ws k) = false) := hzero
          cases hlt2 : (FloatKind.f64.format.order x (ws k) == some Ordering.lt)
          · have HL : Hid (Fl.ltO uo (ws k) = false) := HLR.out.symm.trans hlt2
            go_wp2
            go_roundw
            case rel =>
              refine ⟨k + 1, _, uo.bind fun v => Ieee.double.sub v (ws k), k, by omega, by go_num, rfl, rfl, HZR.out _, hlt, ?_, _, rfl⟩
              refine HP2.out.trans ?_
              rw [if_neg (by rw [HZ0.out]; decide), if_neg (by rw [HL.out]; decide)]
            case measure => simp [intOf]; omega
          · have HL : Hid (Fl.ltO uo (ws k) = true) := HLR.out.symm.trans hlt2
            go_wp2
            go_ret
            refine ⟨?_, HO.out.drewN _⟩
            rw [HP2.out, if_neg (by rw [HZ0.out]; decide), if_pos HL.out]
            rfl
        · have HZ0 : Hid (Fl.zeroW (ws k) = true) := hzero
          go_wp2
          go_roundw
          case rel =>
            refine ⟨k + 1, x, uo, l, by omega, by go_num, rfl, rfl, HRL.out, hl, ?_, _, rfl⟩
            refine HP2.out.trans ?_
            rw [if_pos HZ0.out]
          case measure => simp [intOf]; omega
      · go_wp2
        go_ret
        refine ⟨?_, HO.out.drewN _⟩
        have e : ((List.range n).map ws).drop k = [] := List.drop_of_length_le (by simp; omega)
        rw [HP.out, e, Fl.pick]
        rfl

theorem pickType (tb n : Nat) (ws : Nat → Nat) (total F : Nat) (hi lo : Int) (w : World) (hn : n ≤ 100000) (hn0 : 0 < n) (h1 : Pcg.Word hi) (h2 : Pcg.Word lo) (hs : SrcAt w tb n ws total hi lo)
    (hF : Ieee.double.div (floatOfInt .f64 (Pcg.k53 hi lo)) 4845873199050653696 = some F) :
    Calls Try.prog 14 #[.pointer (some ⟨tb + 1 + n + 4, 0, none⟩)] w fun e w' =>
      e = .returned (.pointer (some ⟨tb + 1 + Fl.pick (Ieee.double.mul F total) ((List.range n).map ws) 0 0, 0, none⟩)) ∧ Pcg.Only (tb + 1 + n + 1) w w' := by
  have HC : Hid (_) := pick21 tb n ws total F hi lo w hn hn0 h1 h2 hs hF
  clear hs hF h1 h2
  generalize Fl.pick (Ieee.double.mul F total) ((List.range n).map ws) 0 0 = j at *
  go_enter Try.func14, Try.ntmps14
  go_wp2_with fail
  refine Calls.mono HC.out ?_
  rintro e w' ⟨rfl, ho⟩
  go_wp2
  go_ret
  exact ⟨rfl, ho⟩

/-- The i-th type of a source. -/
theorem sourceType (tb n i : Nat) (ws : Nat → Nat) (total : Nat) (w : World) (hi : i < n) (g0 : w.cell? ⟨tb + 1 + n + 4, 0, none⟩ = some (.pointer (some ⟨tb + 1 + n, 0, none⟩)))
    (g2 : w.cell? ⟨tb + 1 + n, 8, none⟩ = some (.slice (some ⟨tb, 0, none⟩) n n)) (g9 : w.cell? ⟨tb, i, none⟩ = some (.pointer (some ⟨tb + 1 + i, 0, none⟩))) :
    Calls Try.prog 15 #[.pointer (some ⟨tb + 1 + n + 4, 0, none⟩), .int .i64 i] w fun e w' => e = .returned (.pointer (some ⟨tb + 1 + i, 0, none⟩)) ∧ w' = w := by
  generalize tb + 1 + n + 4 = sb at *
  generalize tb + 1 + n = wb at *
  generalize tb + 1 + i = q at *
  go_enter Try.func15, Try.ntmps15
  go_wp2
  go_ret
  exact ⟨rfl, rfl⟩
end Go.Proofs.Qxb6618562a.Src
