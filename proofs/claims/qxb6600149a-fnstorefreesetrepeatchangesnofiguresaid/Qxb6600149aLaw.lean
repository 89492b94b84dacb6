import Derived.Test.Qxb6600149aAny
import Derived.BigQuiet
namespace Go.Proofs.Qxb6600149a
open Go.RowKit
set_option linter.unusedVariables false

/-- the marks lie at s, and what lay below base is as it was -/
def Has (base s : Nat) (w wx : World) : Prop := ∃ vt vm vs T M S r, SF wx base s vt vm vs T M S r ∧ Shape T M S ∧ Below base w wx

theorem Has.below {base s : Nat} {w wx : World} (h : Has base s w wx) : Below base w wx := by
  obtain ⟨_, _, _, _, _, _, _, _, _, h⟩ := h
  exact h

theorem any_drew (base s : Nat) (w wr : World) (h : Has base s w wr) (n : Nat) (t : Int) (hn1 : 1 ≤ n) (hn2 : n ≤ 65536) :
    Calls Try.prog 21 #[.pointer (some ⟨s, 0, none⟩), .int .u32 n, .int .i16 t] wr.drew fun e w' => e = .returned (.tuple #[]) ∧ Has base s w w' := by
  obtain ⟨vt, vm, vs, T, M, S, r, hF, hsh, hb⟩ := h
  refine (any21 base s n t vt vm vs T M S r wr.drew hF.drew hsh hn1 hn2).mono ?_
  rintro e w' ⟨rfl, hD⟩
  obtain ⟨vt', vm', vs', T', M', S', r', h1, h2, _, _, _, h3⟩ := hD.any hn1
  exact ⟨rfl, vt', vm', vs', T', M', S', r', h1, h2, hb.drew.trans h3⟩

theorem fresh_has (w : World) : Has w.heap.size w.heap.size w (w.alloc (.cells #[.slice none 0 0, .slice none 0 0, .slice none 0 0, .int .u64 0] 40 (0, 0))) := by
  refine ⟨.slice none 0 0, .slice none 0 0, .slice none 0 0, [], [], [], 0, ⟨?_, Nat.le_refl _, ⟨?_, .inl ⟨rfl, rfl⟩⟩, ⟨?_, .inl ⟨rfl, rfl⟩⟩, ⟨?_, .inl ⟨rfl, rfl⟩⟩, .inl rfl⟩, ⟨rfl, rfl, by decide⟩, (Below.refl _ _).alloc (Nat.le_refl _) _⟩
  · exact (Array.getElem?_push_size)
  all_goals simp

set_option maxRecDepth 100000 in
set_option maxHeartbeats 8000000 in
theorem law8 (v0 v1 : Value) (xs ys : List Int) (x y : Int) (w : World) (h0 : Reads .u32 w v0 xs) (h1 : Reads .i16 w v1 ys) (hl0 : xs.length ≤ maxLen) (hl1 : ys.length ≤ maxLen) (hnn : ∀ i, i < xs.length → 0 ≤ xs.getD i 0) (hx : 0 ≤ x) :
    Calls Try.prog 8 #[v0, v1, .int .u32 x, .int .i16 y] w fun e w' => e = .returned (.bool true) ∧ Below w.heap.size w w' := by
  obtain ⟨n, rfl⟩ := Int.eq_ofNat_of_zero_le hx
  have H0 := hide h0
  have H1 := hide h1
  obtain ⟨a0, c0, rfl, -⟩ := h0
  obtain ⟨a1, c1, rfl, -⟩ := h1
  have HNN := hide hnn
  have HB := hide (bytes29 a0 a1 xs.length c0 ys.length c1 (n : Int) y w hl0 hl1)
  clear hl0 hl1 hnn
  by_cases hA : xs.length ≤ 65536 ∧ ys.length ≤ 65536 ∧ 1 ≤ n ∧ n ≤ 65536
  · obtain ⟨hA1, hA2, hA3, hA4⟩ := hA
    have d1 : decide ((65536 : Int) < (xs.length : Int)) = false := decide_eq_false (by omega)
    have d2 : decide ((65536 : Int) < (ys.length : Int)) = false := decide_eq_false (by omega)
    have d3 : ((n : Int) == 0) = false := by rw [beq_eq_false_iff_ne]; omega
    have d4 : decide ((65536 : Int) < (n : Int)) = false := decide_eq_false (by omega)
    have HFT := hide (fits17 _ _ xs ys w H0.out H1.out (by omega) (by omega) HNN.out)
    have HC0 := hide (clone18 _ xs w H0.out (by omega))
    have HA := hide (And.intro hA1 (And.intro hA2 (And.intro hA3 hA4)))
    clear hA1 hA2 hA3 hA4
    go_enter Try.func8, Try.ntmps8
    go_wp2_with fail
    refine HB.out.mono ?_
    rintro e w' ⟨b, rfl, rfl⟩
    cases b
    · go_wp2_with fail
      go_ret
      exact ⟨rfl, Below.refl _ _⟩
    · go_wp2_with fail
      refine HFT.out.mono ?_
      rintro e w' ⟨rfl, rfl | ⟨rfl, hfit⟩⟩
      · go_wp2_with fail
        go_ret
        exact ⟨rfl, Below.refl _ _⟩
      · have HFIT := hide hfit
        clear hfit
        go_wp2_with fail
        refine HC0.out.mono ?_
        rintro e w1 ⟨r0, rfl, hr0, hb0, -⟩
        have HR0 := hide hr0
        have HB0 := hide hb0
        obtain ⟨b0, e0, rfl, -⟩ := hr0
        have HC1 := hide (clone19 _ ys w1 (H1.out.later hb0) (by have := HA.out; omega))
        clear hb0
        go_wp2_with fail
        refine HC1.out.mono ?_
        rintro e w2 ⟨r1, rfl, hr1, hb1, -⟩
        have HR1 := hide hr1
        have HB1 := hide hb1
        obtain ⟨b1, e1, rfl, -⟩ := hr1
        have HR0' := hide (HR0.out.later hb1)
        have HM := hide (calls20 b0 b1 xs.length e0 ys.length e1 w2 (by have := HA.out; omega) (by have := HA.out; omega))
        clear hb1
        obtain ⟨m, hm⟩ : ∃ m, m = Nat.min xs.length ys.length := ⟨_, rfl⟩
        rw [← hm] at HM HFIT
        have hm0 : m ≤ xs.length := by rw [hm]; exact Nat.min_le_left ..
        have hm1 : m ≤ ys.length := by rw [hm]; exact Nat.min_le_right ..
        have hm6 : m ≤ 65536 := by have := HA.out; omega
        clear hm
        go_wp2_with fail
        refine HM.out.mono ?_
        rintro e w2 ⟨rfl, rfl⟩
        go_wp2_with fail
        go_loopw [11] (fun i wr => ∃ k : Nat, k ≤ m ∧ i = .int .i64 (k : Int) ∧ Has w2.heap.size w2.heap.size w2 wr) (fun i _ => m - (intOf i).toNat)
        case atStart => exact ⟨0, Nat.zero_le _, rfl, fresh_has _⟩
        case round =>
          obtain ⟨k, hk, rfl, hH⟩ := hrel
          by_cases hlt : k < m
          · obtain ⟨ca, cc, he, hx0⟩ := (HR0'.out.later hH.below).at
            cases he
            obtain ⟨p0, o0, rfl, g0⟩ := hx0 (by omega)
            obtain ⟨ca', cc', he', hx1⟩ := (HR1.out.later hH.below).at
            cases he'
            obtain ⟨p1, o1, rfl, g1⟩ := hx1 (by omega)
            obtain ⟨z0, hz0⟩ : ∃ z : Nat, xs.getD k 0 = z := ⟨(xs.getD k 0).toNat, by have := HFIT.out k hlt; omega⟩
            obtain ⟨z1, hz1⟩ : ∃ z, ys.getD k 0 = z := ⟨_, rfl⟩
            have q0 := g0 k (by omega)
            have q1 := g1 k (by omega)
            rw [hz0] at q0
            rw [hz1] at q1
            have HAD := hide (any_drew _ _ w2 wr hH z0 z1 (by have := HFIT.out k hlt; omega) (by have := HFIT.out k hlt; omega))
            clear g0 g1 hx0 hx1 hz0 hz1 hH
            have hk0 : k < xs.length := by omega
            have hk1 : k < ys.length := by omega
            go_wp2_with fail
            go_region_with (go_at_call 21; refine HAD.out.mono ?_; rintro e w' ⟨rfl, hH'⟩)
            all_goals
              go_wp2_with fail
              go_roundw
              case rel => exact ⟨k + 1, by omega, by go_num, hH'⟩
              case measure => simp [intOf]; omega
          · obtain ⟨hA1, hA2, hA3, hA4⟩ := HA.out
            obtain ⟨vt, vm, vs, T, M, S, r, hF, hsh, hb3⟩ := hH
            have HS1 := hide (any21 _ _ n y vt vm vs T M S r wr hF hsh hA3 hA4)
            have HB3 := hide hb3
            clear hF hsh hb3
            clear hA1 hA2 hA4
            go_wp2_with fail
            refine HS1.out.mono ?_
            rintro e w4 ⟨rfl, hD⟩
            obtain ⟨vt, vm, vs, T, M, S, r, hF4, hsh4, hnT, hT, hM, hb4⟩ := hD.any hA3
            have HB4 := hide (HB3.out.trans hb4)
            clear hD hb4
            have HF4 := hide hF4
            obtain ⟨ta, tc, rfl⟩ := own_shape hF4.t
            obtain ⟨ma, mc, rfl⟩ := own_shape hF4.m
            obtain ⟨sa, sc, rfl⟩ := own_shape hF4.s
            have hML : M.length ≤ 1048576 := by have := hsh4.1; have := hsh4.2.2; omega
            have hSL : S.length ≤ 1048576 := by have := hsh4.1; have := hsh4.2.1; have := hsh4.2.2; omega
            have hTL : T.length ≤ 1048576 := by have := hsh4.2.2; omega
            have HSH4 := hide hsh4
            have HK := hide (And.intro hnT (And.intro hT hM))
            have HG1 := hide (get26 hF4)
            have HC1 := hide (clone19 _ T w4 (own_reads hF4.t) hTL)
            clear hF4 hsh4 hnT hT hM HS1
            go_wp2_with fail
            refine HG1.out.mono ?_
            rintro e w4 ⟨rfl, rfl⟩
            go_wp2_with fail
            refine HC1.out.mono ?_
            rintro e w5 ⟨q0, rfl, hq0, hb5, hn0⟩
            have hF5 := HF4.out.later hb5
            have HB5 := hide hb5
            have HQ0 := hide hq0
            have HN0 := hide hn0
            obtain ⟨q0a, q0c, rfl, -⟩ := hq0
            have HF5 := hide hF5
            have HG2 := hide (get24 hF5)
            have HC2 := hide (clone19 _ M w5 (own_reads hF5.m) hML)
            clear hb5 hF5 hn0
            go_wp2_with fail
            refine HG2.out.mono ?_
            rintro e w5 ⟨rfl, rfl⟩
            go_wp2_with fail
            refine HC2.out.mono ?_
            rintro e w6 ⟨q1, rfl, hq1, hb6, hn1⟩
            have hF6 := HF5.out.later hb6
            have HB6 := hide hb6
            have HQ1 := hide hq1
            have HN1 := hide hn1
            obtain ⟨q1a, q1c, rfl, -⟩ := hq1
            have HF6 := hide hF6
            have HG3 := hide (get27 hF6)
            have HC3 := hide (clone30 _ S w6 (own_reads hF6.s) hSL)
            clear hb6 hF6 hn1
            go_wp2_with fail
            refine HG3.out.mono ?_
            rintro e w6 ⟨rfl, rfl⟩
            go_wp2_with fail
            refine HC3.out.mono ?_
            rintro e w7 ⟨q2, rfl, hq2, hb7, hn2⟩
            have hF7 := HF6.out.later hb7
            have HB7 := hide hb7
            have HQ2 := hide hq2
            have HN2 := hide hn2
            obtain ⟨q2a, q2c, rfl, -⟩ := hq2
            have HF7 := hide hF7
            have HG4 := hide (get28 hF7)
            have HS2 := hide (any21 _ _ n y _ _ _ T M S r w7 hF7 HSH4.out hA3 HA.out.2.2.2)
            clear hb7 hF7 hn2
            go_wp2_with fail
            refine HG4.out.mono ?_
            rintro e w7 ⟨rfl, rfl⟩
            go_wp2_with fail
            refine HS2.out.mono ?_
            rintro e w8 ⟨rfl, hD⟩
            obtain ⟨hF8, hb8, hfr⟩ := hD.again HK.out.1 HK.out.2.1 HK.out.2.2
            have s4 := HB5.out.size
            have s5 := HB6.out.size
            have fq : ∀ (v : Value), (∀ a l c, v = .slice (some a) l c → w4.heap.size ≤ a.block) → ∀ a l c, v = .slice (some a) l c → w8.heap[a.block]? = w7.heap[a.block]? := fun v h a l c e => hfr _ (fun ho => by have := (HF4.out.lt _ ho).2; have := h a l c e; omega)
            have R0 := ((HQ0.out.later HB6.out).later HB7.out).frame (fq _ HN0.out)
            have R1 := (HQ1.out.later HB7.out).frame (fq _ (fun a l c e => by have := HN1.out a l c e; omega))
            have R2 := HQ2.out.frame (fq _ (fun a l c e => by have := HN2.out a l c e; omega))
            have HB8 := hide hb8
            have HF8 := hide hF8
            have HG5 := hide (get26 hF8)
            have HE1 := hide (eq_true _ _ T w8 (own_reads hF8.t) R0 (by omega))
            have HR1 := hide R1
            have HR2 := hide R2
            clear hD hF8 hb8 hfr fq R0 R1 R2 s4 s5
            go_wp2_with fail
            refine HG5.out.mono ?_
            rintro e w8 ⟨rfl, rfl⟩
            go_wp2_with fail
            refine HE1.out.mono ?_
            rintro e w9 ⟨rfl, nd, hw9⟩
            have hb9 : Below w8.heap.size w8 w9 := by rw [hw9]; exact ⟨rfl, rfl, rfl, Nat.le_refl _, fun _ _ => rfl⟩
            have hF9 := HF8.out.later hb9
            have HB9 := hide hb9
            have HF9 := hide hF9
            have HG6 := hide (get24 hF9)
            have HE2 := hide (eq_true _ _ M w9 (own_reads hF9.m) (HR1.out.later hb9) (by omega))
            clear hb9 hF9 hw9
            go_wp2_with fail
            refine HG6.out.mono ?_
            rintro e w9 ⟨rfl, rfl⟩
            go_wp2_with fail
            refine HE2.out.mono ?_
            rintro e w10 ⟨rfl, nd', hw10⟩
            have hb10 : Below w9.heap.size w9 w10 := by rw [hw10]; exact ⟨rfl, rfl, rfl, Nat.le_refl _, fun _ _ => rfl⟩
            have hF10 := HF9.out.later hb10
            have HB10 := hide hb10
            have HF10 := hide hF10
            have HG7 := hide (get28 hF10)
            have HG8 := hide (get27 hF10)
            have HR2' := hide ((HR2.out.later HB9.out).later hb10)
            clear hb10 hF10 hw10
            go_wp2_with fail
            refine HG7.out.mono ?_
            rintro e w10 ⟨rfl, rfl⟩
            go_wp2_with fail
            refine HG8.out.mono ?_
            rintro e w10 ⟨rfl, rfl⟩
            obtain ⟨i, rfl⟩ : ∃ i, n = i + 1 := ⟨n - 1, by omega⟩
            obtain ⟨kb, hkb⟩ : ∃ kb, kb = i / 256 := ⟨_, rfl⟩
            have hi6 : i < 70000 := by have := HA.out.2.2.2; omega
            have hq : Int.tdiv (i : Int) 256 = (kb : Int) := by rw [hkb]; exact (Int.natCast_ediv i 256).symm ▸ (Int.tdiv_eq_ediv_of_nonneg (by omega))
            have hq' : (i : Int) / 256 = (kb : Int) := by rw [hkb]; omega
            have HKB := hide hkb
            clear hkb
            go_wp2_with fail
            go_loop [18, 19] (fun a _ => ∃ j : Nat, j ≤ S.length ∧ a = .int .i64 (j : Int)) (fun a _ => S.length - (intOf a).toNat)
            case atStart => exact ⟨0, Nat.zero_le _, rfl⟩
            case round =>
              obtain ⟨j, hj, rfl⟩ := hrel
              by_cases hjl : j < S.length
              · obtain ⟨ca, cc, he, hx2⟩ := HR2'.out.at
                cases he
                obtain ⟨p2, o2, rfl, g2⟩ := hx2 (by omega)
                obtain ⟨cb, cd, he', hx3⟩ := (own_reads HF10.out.s).at
                obtain ⟨rfl, rfl⟩ : sa = cb ∧ sc = cd := by injection he' with z1 z2 z3; exact ⟨z1, z3⟩
                obtain ⟨p3, o3, rfl, g3⟩ := hx3 (by rw [List.length_set]; omega)
                have k2 := g2 j hjl
                have k3 := g3 j (by rw [List.length_set]; exact hjl)
                obtain ⟨z, hz⟩ : ∃ z, S.getD j 0 = z := ⟨_, rfl⟩
                rw [hz] at k2
                have e1 : (i + 1 - 1) / 256 = kb := by rw [HKB.out]; rfl
                rw [e1] at k3
                clear g2 g3 hx2 hx3 he' e1
                by_cases hjk : j = kb
                · subst hjk
                  rw [getD_set _ _ _ hjl, hz] at k3
                  clear hz
                  go_wp2_with fail
                  go_round
                  case rel => exact ⟨j + 1, by omega, by go_num⟩
                  case measure => simp [intOf]; omega
                · rw [getD_set_ne _ _ _ _ (fun e => hjk e.symm), hz] at k3
                  have hjk' : ((j : Int) == (kb : Int)) = false := by rw [beq_eq_false_iff_ne]; omega
                  clear hz
                  go_wp2_with fail
                  go_round
                  case rel => exact ⟨j + 1, by omega, by go_num⟩
                  case measure => simp [intOf]; omega
              · go_wp2_with fail
                go_ret
                refine ⟨rfl, ?_⟩
                have s0 := HB0.out.size
                have s1 := HB1.out.size
                have s4 := HB4.out.size
                have s5 := HB5.out.size
                have s6 := HB6.out.size
                have s7 := HB7.out.size
                have s8 := HB8.out.size
                have s9 := HB9.out.size
                exact (((((((HB0.out.trans (HB1.out.mono (by omega))).trans (HB4.out.mono (by omega))).trans (HB5.out.mono (by omega))).trans (HB6.out.mono (by omega))).trans (HB7.out.mono (by omega))).trans (HB8.out.mono (by omega))).trans (HB9.out.mono (by omega))).trans (HB10.out.mono (by omega))
  · have tests : (decide ((65536 : Int) < (xs.length : Int)) = true) ∨ (decide ((65536 : Int) < (xs.length : Int)) = false ∧ decide ((65536 : Int) < (ys.length : Int)) = true) ∨ (decide ((65536 : Int) < (xs.length : Int)) = false ∧ decide ((65536 : Int) < (ys.length : Int)) = false ∧ ((n : Int) == 0) = true) ∨ (decide ((65536 : Int) < (xs.length : Int)) = false ∧ decide ((65536 : Int) < (ys.length : Int)) = false ∧ ((n : Int) == 0) = false ∧ decide ((65536 : Int) < (n : Int)) = true) := by
      simp only [decide_eq_true_eq, decide_eq_false_iff_not, beq_iff_eq, beq_eq_false_iff_ne]
      omega
    clear hA
    go_enter Try.func8, Try.ntmps8
    go_wp2_with fail
    refine HB.out.mono ?_
    rintro e w' ⟨b, rfl, rfl⟩
    cases b
    · go_wp2_with fail
      go_ret
      exact ⟨rfl, Below.refl _ _⟩
    · rcases tests with t1 | ⟨t1, t2⟩ | ⟨t1, t2, t3⟩ | ⟨t1, t2, t3, t4⟩
      all_goals
        go_wp2_with fail
        go_ret
        exact ⟨rfl, Below.refl _ _⟩

end Go.Proofs.Qxb6600149a
