import Derived.Test.Qxb6612279aStart
namespace Go.Proofs.Qxb6612279a
open Go.RowKit
set_option linter.unusedVariables false

set_option maxRecDepth 100000 in
set_option maxHeartbeats 1000000 in
theorem law6_long (a0 a1 : Option Addr) (l0 c0 l1 c1 : Nat) (w : World) (h0 : l0 ≤ maxLen) (h1 : l1 ≤ maxLen) (hlong : (524288 : Int) < (l0 : Int) ∨ (524288 : Int) < (l1 : Int)) :
    Calls Try.prog 6 #[.slice a0 l0 c0, .slice a1 l1 c1] w fun e w' => e = .returned (.bool true) ∧ Below w.heap.size w w' := by
  have HB := hide (bytes21 a0 a1 l0 c0 l1 c1 w h0 h1)
  unfold maxLen at h0 h1
  by_cases hl : (524288 : Int) < (l0 : Int)
  · have hd : decide ((524288 : Int) < (l0 : Int)) = true := decide_eq_true hl
    clear hlong hl
    go_enter Try.func6, Try.ntmps6
    go_wp2_with fail
    refine HB.out.mono ?_
    rintro e w' ⟨b, rfl, rfl⟩
    cases b
    all_goals
      go_wp2_with fail
      go_ret
      exact ⟨rfl, Below.refl _ _⟩
  · have hd0 : decide ((524288 : Int) < (l0 : Int)) = false := decide_eq_false hl
    have hd1 : decide ((524288 : Int) < (l1 : Int)) = true := decide_eq_true (hlong.resolve_left hl)
    clear hlong hl
    go_enter Try.func6, Try.ntmps6
    go_wp2_with fail
    refine HB.out.mono ?_
    rintro e w' ⟨b, rfl, rfl⟩
    cases b
    all_goals
      go_wp2_with fail
      go_ret
      exact ⟨rfl, Below.refl _ _⟩

set_option maxRecDepth 100000 in
set_option maxHeartbeats 4000000 in
theorem law6_big (a0 a1 : Option Addr) (c0 c1 : Nat) (W P : List Int) (w : World) (hW : Reads w (.slice a0 W.length c0) W) (hP : Reads w (.slice a1 P.length c1) P) (h0 : (W.length : Int) ≤ 524288) (h1 : (P.length : Int) ≤ 524288) (hbig : (65536 : Int) ≤ (W.length : Int)) :
    Calls Try.prog 6 #[.slice a0 W.length c0, .slice a1 P.length c1] w fun e w' => e = .returned (.bool true) ∧ Below w.heap.size w w' := by
  have HB := hide (bytes21 a0 a1 W.length c0 P.length c1 w (by unfold maxLen; omega) (by unfold maxLen; omega))
  have HA := hide (afterFirst_big a0 W.length c0 w hbig)
  have hd0 : decide ((524288 : Int) < (W.length : Int)) = false := decide_eq_false (by omega)
  have hd1 : decide ((524288 : Int) < (P.length : Int)) = false := decide_eq_false (by omega)
  have hw65 : decide ((W.length : Int) < 65536) = false := decide_eq_false (by omega)
  have HW := hide hW
  have HP := hide hP
  have HZ := hide (start_big _ W w hW hbig (by omega))
  clear hW hP
  by_cases hfull : (P.length : Int) < 65536
  · have hd2 : decide ((P.length : Int) < 65536) = true := decide_eq_true hfull
    go_enter Try.func6, Try.ntmps6
    go_wp2_with fail
    refine HB.out.mono ?_
    rintro e w' ⟨b, rfl, rfl⟩
    cases b
    · go_wp2_with fail
      go_ret
      exact ⟨rfl, Below.refl _ _⟩
    · go_wp2_with fail
      refine HA.out.mono ?_
      rintro e w1 ⟨rfl, rfl⟩
      go_wp2_with fail
      go_ret
      exact ⟨rfl, Below.refl _ _⟩
  · have hd2 : decide ((P.length : Int) < 65536) = false := decide_eq_false hfull
    have hP65 : (65536 : Int) ≤ (P.length : Int) := by omega
    clear hfull
    go_enter Try.func6, Try.ntmps6
    go_wp2_with fail
    refine HB.out.mono ?_
    rintro e w' ⟨b, rfl, rfl⟩
    cases b
    · go_wp2_with fail
      go_ret
      exact ⟨rfl, Below.refl _ _⟩
    · go_wp2_with fail
      refine HA.out.mono ?_
      rintro e w1 ⟨rfl, rfl⟩
      go_wp2_with fail
      refine HZ.out.mono ?_
      rintro e w2 ⟨I, b, v, rfl, hm, hbel⟩
      obtain ⟨av, lv, cv, rfl⟩ := hm.shape
      have HM := hide hm
      have HBu := hide (by obtain ⟨_, _, _, _, m, _⟩ := hm; exact buffer_any I _ _ _ _ w2 m.ib ⟨_, _, _, rfl⟩ : Calls Try.prog 16 #[.pointer (some ⟨I, 0, none⟩)] w2 fun e w' => e = .returned (.slice av lv cv) ∧ w' = w2)
      clear hm
      go_wp2_with fail
      refine HBu.out.mono ?_
      rintro e w3 ⟨rfl, rfl⟩
      go_wp2_with (at_builtin; refine wpList_append_reads rfl (.tmp 46) (.tmp 47) rfl _ _ _ _ rfl HM.out.own _ P rfl (HP.out.later hbel) (by simp; omega) hbel.size ?_; intro v' w4 ho hg hl; refine Hid.out ?_)
      refine hide ?_
      obtain ⟨m1, m2⟩ := mid_append HM.out ho hg hl
      obtain ⟨a', l', c', rfl⟩ := m1.shape
      have HR := hide (makeRoom23 _ I b _ _ _ _ _ _ w4 m1 (by simpa using hP65) _ (makeRoom_part _ I b W ([] ++ P) _ _ w4 m1 (by simp; omega)))
      clear m1 ho hg hl
      go_wp2_with fail
      refine HR.out.mono ?_
      rintro e w5 ⟨u, rfl, m5, b5⟩
      obtain ⟨a5, l5, c5, rfl⟩ := m5.shape
      have HM5 := hide m5
      have HBu5 := hide (by obtain ⟨_, _, _, _, m, _⟩ := m5; exact buffer_any I _ _ _ _ w5 m.ib ⟨_, _, _, rfl⟩ : Calls Try.prog 16 #[.pointer (some ⟨I, 0, none⟩)] w5 fun e w' => e = .returned (.slice a5 l5 c5) ∧ w' = w5)
      have hl5 : l5 = 0 := by obtain ⟨_, _, _, e, _⟩ := m5; cases e; rfl
      subst hl5
      clear m5
      go_wp2_with fail
      refine HBu5.out.mono ?_
      rintro e w6 ⟨rfl, rfl⟩
      go_wp2_with fail
      refine (written_any _ I b _ _ _ _ _ _ _ HM5.out).mono ?_
      rintro e w7 ⟨wr, rfl, hr7, n7, hw7⟩
      have hb7 : Below w6.heap.size w6 w7 := by rw [hw7]; exact below_drewN (Below.refl _ _) _
      have HR7 := hide hr7
      clear hr7 hw7
      go_wp2_with fail
      refine (eq_true _ _ [] _ (HM5.out.reads.later hb7) (HM5.out.reads.later hb7) (by simp)).mono ?_
      rintro e w8 ⟨rfl, n8, hw8⟩
      have hb78 : Below w7.heap.size w7 w8 := by rw [hw8]; exact below_drewN (Below.refl _ _) _
      clear hw8
      go_wp2_with fail
      have hb6 : Below w1.heap.size w1 w6 := (hbel.trans m2).trans b5
      have hb7' : Below w1.heap.size w1 w7 := hb6.trans (hb7.mono hb6.size)
      have hb8 : Below w1.heap.size w1 w8 := hb7'.trans (hb78.mono hb7'.size)
      refine (cat_any _ _ (W ++ ([] ++ P)) [] _ (HR7.out.later hb78) ((HM5.out.reads.later hb7).later hb78) (by simp; omega) (by simp)).mono ?_
      rintro e w9 ⟨r1, rfl, hr1, hb9⟩
      have HR1 := hide hr1
      clear hr1
      go_wp2_with fail
      have hb9' : Below w1.heap.size w1 w9 := hb8.trans (hb9.mono hb8.size)
      refine (cat_any _ _ W P _ (HW.out.later hb9') (HP.out.later hb9') (by omega) (by omega)).mono ?_
      rintro e w10 ⟨r2, rfl, hr2, hb10⟩
      have HR2 := hide hr2
      clear hr2
      go_wp2_with fail
      refine (eq_true _ _ (W ++ P) _ (by simpa using HR1.out.later hb10) HR2.out (by simp; omega)).mono ?_
      rintro e w11 ⟨rfl, n11, rfl⟩
      go_wp2_with fail
      go_ret
      exact ⟨rfl, below_drewN (hb9'.trans (hb10.mono hb9'.size)) _⟩

set_option maxRecDepth 100000 in
set_option maxHeartbeats 4000000 in
theorem law6_small (a0 a1 : Option Addr) (c0 c1 : Nat) (W P : List Int) (w : World) (hW : Reads w (.slice a0 W.length c0) W) (hP : Reads w (.slice a1 P.length c1) P) (h0 : (W.length : Int) ≤ 524288) (h1 : (P.length : Int) ≤ 524288) (hbig : (W.length : Int) < 65536) :
    Calls Try.prog 6 #[.slice a0 W.length c0, .slice a1 P.length c1] w fun e w' => e = .returned (.bool true) ∧ Below w.heap.size w w' := by
  have HB := hide (bytes21 a0 a1 W.length c0 P.length c1 w (by unfold maxLen; omega) (by unfold maxLen; omega))
  have HA := hide (afterFirst_small a0 W.length c0 w hbig)
  have hd0 : decide ((524288 : Int) < (W.length : Int)) = false := decide_eq_false (by omega)
  have hd1 : decide ((524288 : Int) < (P.length : Int)) = false := decide_eq_false (by omega)
  have hw65 : decide ((W.length : Int) < 65536) = true := decide_eq_true hbig
  have HW := hide hW
  have HP := hide hP
  have HZ := hide (start_small _ W w hW hbig)
  have HBG := hide hbig
  clear hW hP hbig
  by_cases hfull : (W.length : Int) + (P.length : Int) < 65536
  · have hd2 : decide ((W.length : Int) + (P.length : Int) < 65536) = true := decide_eq_true hfull
    go_enter Try.func6, Try.ntmps6
    go_wp2_with fail
    refine HB.out.mono ?_
    rintro e w' ⟨b, rfl, rfl⟩
    cases b
    · go_wp2_with fail
      go_ret
      exact ⟨rfl, Below.refl _ _⟩
    · go_wp2_with fail
      refine HA.out.mono ?_
      rintro e w1 ⟨rfl, rfl⟩
      go_wp2_with fail
      go_ret
      exact ⟨rfl, Below.refl _ _⟩
  · have hd2 : decide ((W.length : Int) + (P.length : Int) < 65536) = false := decide_eq_false hfull
    have hP65 : (65536 : Int) ≤ (W.length : Int) + (P.length : Int) := by omega
    clear hfull
    go_enter Try.func6, Try.ntmps6
    go_wp2_with fail
    refine HB.out.mono ?_
    rintro e w' ⟨b, rfl, rfl⟩
    cases b
    · go_wp2_with fail
      go_ret
      exact ⟨rfl, Below.refl _ _⟩
    · go_wp2_with fail
      refine HA.out.mono ?_
      rintro e w1 ⟨rfl, rfl⟩
      go_wp2_with fail
      refine HZ.out.mono ?_
      rintro e w2 ⟨I, b, v, rfl, hm, hbel⟩
      obtain ⟨av, lv, cv, rfl⟩ := hm.shape
      have HM := hide hm
      have HBu := hide (by obtain ⟨_, _, _, _, m, _⟩ := hm; exact buffer_any I _ _ _ _ w2 m.ib ⟨_, _, _, rfl⟩ : Calls Try.prog 16 #[.pointer (some ⟨I, 0, none⟩)] w2 fun e w' => e = .returned (.slice av lv cv) ∧ w' = w2)
      clear hm
      go_wp2_with fail
      refine HBu.out.mono ?_
      rintro e w3 ⟨rfl, rfl⟩
      go_wp2_with (at_builtin; refine wpList_append_reads rfl (.tmp 46) (.tmp 47) rfl _ _ _ _ rfl HM.out.own _ P rfl (HP.out.later hbel) (by omega) hbel.size ?_; intro v' w4 ho hg hl; refine Hid.out ?_)
      refine hide ?_
      obtain ⟨m1, m2⟩ := mid_append HM.out ho hg hl
      obtain ⟨a', l', c', rfl⟩ := m1.shape
      have HR := hide (makeRoom23 _ I b _ _ _ _ _ _ w4 m1 (by rw [List.length_append]; omega) _ (makeRoom_whole _ I b [] W P _ _ w4 m1 (by have := HBG.out; simp; omega)))
      clear m1 ho hg hl
      go_wp2_with fail
      refine HR.out.mono ?_
      rintro e w5 ⟨u, rfl, m5, b5⟩
      obtain ⟨a5, l5, c5, rfl⟩ := m5.shape
      have HM5 := hide m5
      have HBu5 := hide (by obtain ⟨_, _, _, _, m, _⟩ := m5; exact buffer_any I _ _ _ _ w5 m.ib ⟨_, _, _, rfl⟩ : Calls Try.prog 16 #[.pointer (some ⟨I, 0, none⟩)] w5 fun e w' => e = .returned (.slice a5 l5 c5) ∧ w' = w5)
      have hl5 : P.length = l5 := by obtain ⟨_, _, _, e, _⟩ := m5; cases e; rfl
      subst hl5
      clear m5
      go_wp2_with fail
      refine HBu5.out.mono ?_
      rintro e w6 ⟨rfl, rfl⟩
      go_wp2_with fail
      refine (written_any _ I b _ _ _ _ _ _ _ HM5.out).mono ?_
      rintro e w7 ⟨wr, rfl, hr7, n7, hw7⟩
      have hb7 : Below w6.heap.size w6 w7 := by rw [hw7]; exact below_drewN (Below.refl _ _) _
      have HR7 := hide hr7
      clear hr7 hw7
      go_wp2_with fail
      refine (eq_true _ _ P _ (HM5.out.reads.later hb7) (HM5.out.reads.later hb7) (by omega)).mono ?_
      rintro e w8 ⟨rfl, n8, hw8⟩
      have hb78 : Below w7.heap.size w7 w8 := by rw [hw8]; exact below_drewN (Below.refl _ _) _
      clear hw8
      go_wp2_with fail
      have hb6 : Below w1.heap.size w1 w6 := (hbel.trans m2).trans b5
      have hb7' : Below w1.heap.size w1 w7 := hb6.trans (hb7.mono hb6.size)
      have hb8 : Below w1.heap.size w1 w8 := hb7'.trans (hb78.mono hb7'.size)
      refine (cat_any _ _ ([] ++ W) P _ (HR7.out.later hb78) ((HM5.out.reads.later hb7).later hb78) (by simp; omega) (by omega)).mono ?_
      rintro e w9 ⟨r1, rfl, hr1, hb9⟩
      have HR1 := hide hr1
      clear hr1
      go_wp2_with fail
      have hb9' : Below w1.heap.size w1 w9 := hb8.trans (hb9.mono hb8.size)
      refine (cat_any _ _ W P _ (HW.out.later hb9') (HP.out.later hb9') (by omega) (by omega)).mono ?_
      rintro e w10 ⟨r2, rfl, hr2, hb10⟩
      have HR2 := hide hr2
      clear hr2
      go_wp2_with fail
      refine (eq_true _ _ (W ++ P) _ (by simpa using HR1.out.later hb10) HR2.out (by simp; omega)).mono ?_
      rintro e w11 ⟨rfl, n11, rfl⟩
      go_wp2_with fail
      go_ret
      exact ⟨rfl, below_drewN (hb9'.trans (hb10.mono hb9'.size)) _⟩

end Go.Proofs.Qxb6612279a
