import Derived.Test.Qxb6618614aFlds
import Derived.Deep.AppendLies
namespace Go.Proofs.Qxb6618614a.Vals
open Go.ChangeShapes Go.WideShapes Go.RowKit
set_option linter.unusedVariables false

def anyF : ByteArray := ⟨#[36, 97, 110, 121]⟩

/-- The values that add takes of the first q fields. -/
def K (fld : ByteArray) (f : Nat → ByteArray × ByteArray) : Nat → List ByteArray
  | 0 => []
  | q + 1 => K fld f q ++ (if (fld.toList == [36, 97, 110, 121] || (f q).1.toList == fld.toList) = true then [(f q).2] else [])

theorem K_le (fld : ByteArray) (f : Nat → ByteArray × ByteArray) : ∀ q, (K fld f q).length ≤ q
  | 0 => by simp [K]
  | q + 1 => by
    have := K_le fld f q
    simp only [K, List.length_append]
    split <;> simp <;> omega

theorem step_box {w w1 : World} {Bv g c n n0 : Nat} {vq : Value} {xs xs0 : List Value} (hv : w.heap[Bv]? = some (.cells #[vq] 23 (0, 0))) (hown : w.ownsRow (Bv + 1) 9 1 vq n0 xs0)
    (hg : w.grownBy w1 vq.ownBlock) (hown' : w1.ownsRow (Bv + 1) 9 1 (.slice (some ⟨g, 0, none⟩) n c) n xs) :
    w1.heap[Bv]? = some (.cells #[vq] 23 (0, 0)) ∧ (w1.setCell ⟨Bv, 0, none⟩ (.slice (some ⟨g, 0, none⟩) n c)).heap[Bv]? = some (.cells #[.slice (some ⟨g, 0, none⟩) n c] 23 (0, 0)) ∧
      (w1.setCell ⟨Bv, 0, none⟩ (.slice (some ⟨g, 0, none⟩) n c)).ownsRow (Bv + 1) 9 1 (.slice (some ⟨g, 0, none⟩) n c) n xs ∧ Below Bv w (w1.setCell ⟨Bv, 0, none⟩ (.slice (some ⟨g, 0, none⟩) n c)) := by
  have hlt := lt_of_block hv
  have hrow : ∀ k, vq.ownBlock = some k → Bv + 1 ≤ k := by
    intro k hk
    rcases hown.2 with ⟨rfl, _⟩ | ⟨g', _, _, rfl, hb, _⟩
    · simp [Value.ownBlock] at hk
    · simp [Value.ownBlock] at hk; omega
  have hb : Below (Bv + 1) w w1 := (Below.refl _ _).grown hg (by omega) hrow
  have h1 := (hb.block Bv (by omega)).trans hv
  have hgB : Bv + 1 ≤ g := by
    rcases hown'.2 with ⟨h, _⟩ | ⟨g', _, _, h, hb, _⟩
    · cases h
    · cases h; exact hb
  exact ⟨h1, one_setCell h1, ownsRow_setCell_other (a := ⟨Bv, 0, none⟩) hown' (by simp [Value.ownBlock]; omega) _, (hb.mono (show Bv ≤ Bv + 1 by omega)).setCell (p := ⟨Bv, 0, none⟩) (Nat.le_refl _) _⟩

theorem add_any (Br Bv Rb : Nat) (fld : ByteArray) (a : Option Addr) (ne cap : Nat) (f : Nat → ByteArray × ByteArray) (v : Value) (xs : List ByteArray) (w0 w : World)
    (hr : w.cell? ⟨Br, 0, none⟩ = some (.pointer (some ⟨Rb, 0, none⟩))) (hf : w.cell? ⟨Rb, 9, none⟩ = some (.string fld)) (h1 : Br < Bv) (h2 : Rb < Bv)
    (hv : w.heap[Bv]? = some (.cells #[v] 23 (0, 0))) (hown : w.ownsRow (Bv + 1) 9 1 v xs.length (xs.map .string))
    (hs : Flds w0 a ne cap f) (h0 : w0.heap.size ≤ Bv) (hb : Below w0.heap.size w0 w) (hx : xs.length ≤ 4194304) (hne : ne ≤ 1048576) :
    Calls Try.prog 16 #[.slice a ne cap, .pointer (some ⟨Br, 0, none⟩), .pointer (some ⟨Bv, 0, none⟩)] w fun e w' => e = .returned (.tuple #[]) ∧
      ∃ v', w'.heap[Bv]? = some (.cells #[v'] 23 (0, 0)) ∧ w'.ownsRow (Bv + 1) 9 1 v' (xs ++ K fld f ne).length ((xs ++ K fld f ne).map .string) ∧ Below Bv w w' := by
  obtain ⟨g1, g2, hs⟩ := hs
  unfold maxLen at g2
  have HS : Hid (_) := hs
  have HR : Hid (_) := hr
  have HF : Hid (_) := hf
  have HV : Hid (_) := hv
  have HO : Hid (w.ownsRow (Bv + 1) 9 1 v xs.length (xs.map .string)) := hown
  have HB0 : Hid (_) := hb
  have HZ : Hid (Bv < w.heap.size) := lt_of_block hv
  clear hs hr hf hv hown hb
  obtain ⟨i0, hi, hz0, hz1, hz2⟩ := info_parts info9
  go_enter Try.func16, Try.ntmps16
  go_wp2
  go_loopw [8] (fun i wr => ∃ (q : Nat) (v : Value), q ≤ ne ∧ i = .int .i64 q ∧ Hid (wr.heap[Bv]? = some (.cells #[v] 23 (0, 0))) ∧ Hid (wr.ownsRow (Bv + 1) 9 1 v (xs ++ K fld f q).length ((xs ++ K fld f q).map .string)) ∧ Hid (Below Bv w wr)) (fun i _ => ne - (intOf i).toNat)
  case atStart => exact ⟨0, v, Nat.zero_le _, rfl, HV.out, by simpa [K, Hid] using HO.out, Below.refl _ _⟩
  case round =>
    obtain ⟨q, vq, hq, rfl, HVr, HOr, HBr⟩ := hrel
    by_cases hlt : q < ne
    · obtain ⟨b, o, he, hbs, hc⟩ := (show _ ∨ _ from HS.out).resolve_left (fun h => by omega)
      cases he
      have hbB : b < Bv := by omega
      have k1 := (HBr.out.cell (p := ⟨b, o + q * 2, none⟩) hbB).trans ((HB0.out.cell (p := ⟨b, o + q * 2, none⟩) hbs).trans (hc q hlt).1)
      have k2 := (HBr.out.cell (p := ⟨b, o + q * 2 + 1, none⟩) hbB).trans ((HB0.out.cell (p := ⟨b, o + q * 2 + 1, none⟩) hbs).trans (hc q hlt).2)
      have k3 := (HBr.out.cell (p := ⟨Br, 0, none⟩) h1).trans HR.out
      have k4 := (HBr.out.cell (p := ⟨Rb, 9, none⟩) h2).trans HF.out
      clear hc hbs hbB
      go_wp2_with fail
      obtain ⟨w2, hw2⟩ : ∃ w2, w2 = wr.alloc (Obj.cells #[Value.string (f q).fst, Value.string (f q).snd] 38) := ⟨_, rfl⟩
      rw [← hw2]
      have HBx : Hid (Below (Bv + 1) wr w2) := by rw [hw2]; exact (Below.refl _ _).alloc (by have := HBr.out.size; have := HZ.out; omega) _
      have hsz : w2.heap.size = wr.heap.size + 1 := by rw [hw2]; simp
      have j1 : w2.cell? ⟨wr.heap.size, 0, none⟩ = some (.string (f q).1) := by rw [hw2]; simp
      have j2 : w2.cell? ⟨wr.heap.size, 1, none⟩ = some (.string (f q).2) := by rw [hw2]; simp
      have j3 := (HBx.out.cell (p := ⟨Br, 0, none⟩) (show Br < Bv + 1 by omega)).trans k3
      have j4 := (HBx.out.cell (p := ⟨Rb, 9, none⟩) (show Rb < Bv + 1 by omega)).trans k4
      have J5 : Hid (w2.heap[Bv]? = some (.cells #[vq] 23 (0, 0))) := (HBx.out.block _ (by omega)).trans HVr.out
      have j5 := cell_of_one J5.out
      have j6 := free_of_one J5.out
      have J6 : Hid (w2.ownsRow (Bv + 1) 9 1 vq (xs ++ K fld f q).length ((xs ++ K fld f q).map .string)) := by rw [hw2]; exact HOr.out.alloc _
      have J7 : Hid (Below Bv w w2) := HBr.out.trans (HBx.out.mono (by omega))
      have HSZ : Hid (Bv + 1 ≤ w2.heap.size) := by have := HBr.out.size; have := HZ.out; show _ ≤ _; omega
      clear HBx hw2 k1 k2 k3 k4 HVr HOr HBr hsz
      generalize wr.heap.size = Fb at *
      clear wr
      cases t1 : (fld.toList == [36, 97, 110, 121])
      · cases t2 : ((f q).1.toList == fld.toList)
        · have HK : Hid (K fld f (q + 1) = K fld f q) := by show _ = _; simp only [K]; rw [if_neg (by rw [t1, t2]; decide), List.append_nil]
          go_quiet (fail)
          go_wp2
          go_roundw
          case rel => exact ⟨q + 1, vq, by omega, by go_num, J5.out, (by rw [HK.out]; exact J6.out), below_drewN J7.out _⟩
          case measure => simp [intOf]; omega
        · have HK : Hid (K fld f (q + 1) = K fld f q ++ [(f q).2]) := by show _ = _; simp only [K]; rw [if_pos (by rw [t1, t2]; decide)]
          go_quiet (fail)
          obtain ⟨ys, hys⟩ : ∃ ys, ys = xs ++ K fld f q := ⟨_, rfl⟩
          have hyl : ys.length ≤ 5242880 := by have := K_le fld f q; rw [hys, List.length_append]; omega
          have HKY : Hid (xs ++ K fld f (q + 1) = ys ++ [(f q).2]) := by show _ = _; rw [HK.out, hys, List.append_assoc]
          rw [← hys] at J6
          clear hys HK
          go_wp2_with (first
            | (at_builtin; refine wpList_append_lies _ rfl (.tmp 26) (.tmp 29) 23 rfl (Bv + 1) 9 i0 (.string ⟨#[]⟩) 1 16 Try.underlying23 hi hz0 hz1 hz2 rfl (by decide) _ _ _ rfl ((show (w2.drewN nq).ownsRow _ _ _ _ _ _ from J6.out).alloc _) ⟨w2.heap.size, 0, none⟩ 1 1 [.string (f q).2] rfl rfl (cell_one_new _ _ _) (by intro u hu; simp at hu; subst hu; rfl) (by decide) (by unfold maxLen; omega) (by omega) (by have := HSZ.out; simp; omega) _ rfl ?_)
            | fail)
          intro g c w4 hown4 hgrow hat hlt4
          obtain ⟨r1, r2, r3, r4⟩ := step_box (w := (w2.drewN nq).alloc (Obj.cells #[Value.string (f q).snd] 9)) ((heap_alloc_old (w2.drewN nq) _ (lt_of_block J5.out)).trans J5.out) ((show (w2.drewN nq).ownsRow _ _ _ _ _ _ from J6.out).alloc _) hgrow hown4
          have R2 : Hid (_) := r2
          have R3 : Hid (_) := r3
          have R4 : Hid (_) := r4
          have r5 := cell_of_one r1
          have r6 := free_of_one r1
          clear r1 r2 r3 r4 hown4 hgrow hat
          go_wp2
          go_roundw
          case rel => exact ⟨q + 1, _, by omega, by go_num, R2.out, (by rw [HKY.out, List.map_append, List.length_append]; exact R3.out), J7.out.trans (Below.trans (by exact below_drewN (Below.refl _ _) nq) (Below.trans ((Below.refl _ _).alloc (by have := HSZ.out; show _ ≤ w2.heap.size; omega) _) R4.out))⟩
          case measure => simp [intOf]; omega
      · have HK : Hid (K fld f (q + 1) = K fld f q ++ [(f q).2]) := by show _ = _; simp only [K]; rw [if_pos (by rw [t1]; rfl)]
        go_quiet (fail)
        obtain ⟨ys, hys⟩ : ∃ ys, ys = xs ++ K fld f q := ⟨_, rfl⟩
        have hyl : ys.length ≤ 5242880 := by have := K_le fld f q; rw [hys, List.length_append]; omega
        have HKY : Hid (xs ++ K fld f (q + 1) = ys ++ [(f q).2]) := by show _ = _; rw [HK.out, hys, List.append_assoc]
        rw [← hys] at J6
        clear hys HK
        go_wp2_with (first
          | (at_builtin; refine wpList_append_lies _ rfl (.tmp 26) (.tmp 29) 23 rfl (Bv + 1) 9 i0 (.string ⟨#[]⟩) 1 16 Try.underlying23 hi hz0 hz1 hz2 rfl (by decide) _ _ _ rfl ((show (w2.drewN nq).ownsRow _ _ _ _ _ _ from J6.out).alloc _) ⟨w2.heap.size, 0, none⟩ 1 1 [.string (f q).2] rfl rfl (cell_one_new _ _ _) (by intro u hu; simp at hu; subst hu; rfl) (by decide) (by unfold maxLen; omega) (by omega) (by have := HSZ.out; simp; omega) _ rfl ?_)
          | fail)
        intro g c w4 hown4 hgrow hat hlt4
        obtain ⟨r1, r2, r3, r4⟩ := step_box (w := (w2.drewN nq).alloc (Obj.cells #[Value.string (f q).snd] 9)) ((heap_alloc_old (w2.drewN nq) _ (lt_of_block J5.out)).trans J5.out) ((show (w2.drewN nq).ownsRow _ _ _ _ _ _ from J6.out).alloc _) hgrow hown4
        have R2 : Hid (_) := r2
        have R3 : Hid (_) := r3
        have R4 : Hid (_) := r4
        have r5 := cell_of_one r1
        have r6 := free_of_one r1
        clear r1 r2 r3 r4 hown4 hgrow hat
        go_wp2
        go_roundw
        case rel => exact ⟨q + 1, _, by omega, by go_num, R2.out, (by rw [HKY.out, List.map_append, List.length_append]; exact R3.out), J7.out.trans (Below.trans (by exact below_drewN (Below.refl _ _) nq) (Below.trans ((Below.refl _ _).alloc (by have := HSZ.out; show _ ≤ w2.heap.size; omega) _) R4.out))⟩
        case measure => simp [intOf]; omega
    · obtain rfl : q = ne := by omega
      go_wp2
      go_end0
      exact ⟨rfl, vq, HVr.out, HOr.out, HBr.out⟩
end Go.Proofs.Qxb6618614a.Vals
