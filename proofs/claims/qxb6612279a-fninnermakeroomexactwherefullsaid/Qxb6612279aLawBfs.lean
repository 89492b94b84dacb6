import Derived.Test.Qxb6612279aFail
namespace Go.Proofs.Qxb6612279a
open Go.RowKit
set_option linter.unusedVariables false

set_option maxRecDepth 100000 in
set_option maxHeartbeats 4000000 in
theorem law9_fs (a0 a1 : Option Addr) (c0 c1 : Nat) (W P : List Int) (w : World) (hW : Reads w (.slice a0 W.length c0) W) (hP : Reads w (.slice a1 P.length c1) P) (h0 : (W.length : Int) ≤ 524288) (h1 : (P.length : Int) ≤ 524288) (hbig : (W.length : Int) < 65536) :
    Calls Try.prog 9 #[.slice a0 W.length c0, .slice a1 P.length c1, .bool true] w fun e w' => e = .returned (.bool true) ∧ Below w.heap.size w w' := by
  have HB := hide (bytes27 a0 a1 W.length c0 P.length c1 true w (by unfold maxLen; omega) (by unfold maxLen; omega))
  have HA := hide (afterFirst_small a0 W.length c0 w hbig)
  have hd0 : decide ((524288 : Int) < (W.length : Int)) = false := decide_eq_false (by omega)
  have hd1 : decide ((524288 : Int) < (P.length : Int)) = false := decide_eq_false (by omega)
  have hw65 : decide ((W.length : Int) < 65536) = true := decide_eq_true hbig
  have HW := hide hW
  have HP := hide hP
  have HZ := hide (start_small _ W w hW hbig)
  have HBG := hide hbig
  have hnn := nil_neq_nil
  have hen := err_neq_nil
  clear hW hP hbig
  by_cases hfull : (W.length : Int) + (P.length : Int) < 65536
  · have hd2 : decide ((W.length : Int) + (P.length : Int) < 65536) = true := decide_eq_true hfull
    go_enter Try.func9, Try.ntmps9
    go_wp2_with fail
    refine HB.out.mono ?_
    rintro e w' ⟨b, rfl, rfl⟩
    cases b
    · go_wp2_with fail
      go_ret
      exact ⟨rfl, Below.refl _ _⟩
    · go_wp2_with fail
      refine HA.out.mono ?_
      rintro e w1 ⟨rfl, rfl⟩
      go_wp2_with fail
      go_ret
      exact ⟨rfl, Below.refl _ _⟩
  · have hd2 : decide ((W.length : Int) + (P.length : Int) < 65536) = false := decide_eq_false hfull
    have hP65 : (65536 : Int) ≤ (W.length : Int) + (P.length : Int) := by omega
    clear hfull
    go_enter Try.func9, Try.ntmps9
    go_wp2_with fail
    refine HB.out.mono ?_
    rintro e w' ⟨b, rfl, rfl⟩
    cases b
    · go_wp2_with fail
      go_ret
      exact ⟨rfl, Below.refl _ _⟩
    · go_wp2_with fail
      refine HA.out.mono ?_
      rintro e w1 ⟨rfl, rfl⟩
      go_wp2_with fail
      refine HZ.out.mono ?_
      rintro e wz ⟨I, b, v, rfl, hmz, hbelz⟩
      obtain ⟨av, lv, cv, rfl⟩ := hmz.shape
      have HFl := hide (fail26 _ I b _ _ _ _ wz hmz)
      clear hmz
      go_wp2_with fail
      refine HFl.out.mono ?_
      rintro e w2 ⟨rfl, ⟨E, hm⟩, hbf⟩
      have hbel := hbelz.trans hbf
      clear hbelz hbf
      have HM := hide hm
      have HBu := hide (by obtain ⟨_, _, _, _, m, _⟩ := hm; exact buffer_any I _ _ _ _ w2 m.ib ⟨_, _, _, rfl⟩ : Calls Try.prog 16 #[.pointer (some ⟨I, 0, none⟩)] w2 fun e w' => e = .returned (.slice av lv cv) ∧ w' = w2)
      clear hm
      go_wp2_with fail
      refine HBu.out.mono ?_
      rintro e w3 ⟨rfl, rfl⟩
      go_wp2_with (at_builtin; refine wpList_append_reads rfl (.tmp 54) (.tmp 55) rfl _ _ _ _ rfl HM.out.own _ P rfl (HP.out.later hbel) ?_ hbel.size ?_; omega; intro v' w4 ho hg hl; refine Hid.out ?_)
      refine hide ?_
      obtain ⟨m1, m2⟩ := mid_append HM.out ho hg hl
      obtain ⟨a', l', c', rfl⟩ := m1.shape
      have HR := hide (makeRoom28 I _ ⟨_, _, _, rfl⟩ w4 _ (makeRoom_failed _ I b [] W P W.length (.inl rfl) E _ _ w4 m1))
      clear m1 ho hg hl
      go_wp2_with fail
      refine HR.out.mono ?_
      rintro e w5 ⟨u, rfl, m5, b5⟩
      obtain ⟨a5, l5, c5, rfl⟩ := m5.shape
      have HM5 := hide m5
      have hl5 : W.length = l5 := by obtain ⟨_, _, _, e, _⟩ := m5; cases e; rfl
      subst hl5
      clear m5
      go_wp2_with fail
      refine (written_any _ I b _ _ _ _ _ _ _ HM5.out).mono ?_
      rintro e w7 ⟨wr, rfl, hr7, n7, hw7⟩
      have hb7 : Below w5.heap.size w5 w7 := by rw [hw7]; exact below_drewN (Below.refl _ _) _
      have HR7 := hide hr7
      have hb5 : Below w1.heap.size w1 w5 := (hbel.trans m2).trans b5
      have hb7' : Below w1.heap.size w1 w7 := hb5.trans (hb7.mono hb5.size)
      have HM7 := hide (HM5.out.later hb7)
      clear hr7 hw7
      obtain ⟨w8, hw8⟩ : ∃ w8, w8 = w7 := ⟨_, rfl⟩
      subst hw8
      have hb78 : Below w8.heap.size w8 w8 := Below.refl _ _
      have HM8 := hide (HM7.out.later hb78)
      have HR8 := hide (HR7.out.later hb78)
      have hb8 : Below w1.heap.size w1 w8 := hb7'.trans (hb78.mono hb7'.size)
      have HBu8 := hide (by obtain ⟨_, _, _, _, m, _⟩ := HM8.out; exact buffer_any I _ _ _ _ w8 m.ib ⟨_, _, _, rfl⟩ : Calls Try.prog 16 #[.pointer (some ⟨I, 0, none⟩)] w8 fun e w' => e = .returned (.slice a5 W.length c5) ∧ w' = w8)
      clear hb7 HM5 HM7 HR7
      go_wp2_with fail
      refine HBu8.out.mono ?_
      rintro e w9 ⟨rfl, hw9⟩
      subst hw9
      go_wp2_with fail
      refine (eq_true _ _ W _ HM8.out.reads HM8.out.reads (by first | omega | simp)).mono ?_
      rintro e w10 ⟨rfl, n10, hw10⟩
      have hb10 : Below w9.heap.size w9 w10 := by rw [hw10]; exact below_drewN (Below.refl _ _) _
      clear hw10
      have hb10' : Below w1.heap.size w1 w10 := hb8.trans (hb10.mono hb8.size)
      go_wp2_with fail
      refine (eq_true _ _ W _ (HM8.out.later hb10).reads (HW.out.later hb10') (by first | omega | simp)).mono ?_
      rintro e w11 ⟨rfl, n11, hw11⟩
      have hb11 : Below w10.heap.size w10 w11 := by rw [hw11]; exact below_drewN (Below.refl _ _) _
      clear hw11
      have hb11' : Below w1.heap.size w1 w11 := hb10'.trans (hb11.mono hb10'.size)
      go_wp2_with fail
      refine (eq_true _ _ [] _ ((HR8.out.later hb10).later hb11) (Reads.nil _) (by first | omega | (simp; omega) | simp)).mono ?_
      rintro e w12 ⟨rfl, n12, hw12⟩
      have hb12 : Below w11.heap.size w11 w12 := by rw [hw12]; exact below_drewN (Below.refl _ _) _
      clear hw12
      have hb12' : Below w1.heap.size w1 w12 := hb11'.trans (hb12.mono hb11'.size)
      have HM12 := hide (((HM8.out.later hb10).later hb11).later hb12)
      have HDN := hide (done_open _ I b _ W _ _ _ _ w12 HM12.out HBG.out)
      go_wp2_with fail
      refine HDN.out.mono ?_
      rintro e w13 ⟨rfl, hb13⟩
      go_wp2_with fail
      go_ret
      exact ⟨rfl, hb12'.trans hb13⟩

end Go.Proofs.Qxb6612279a
