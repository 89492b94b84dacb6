import Derived.Test.Qxb6600149aSet
namespace Go.Proofs.Qxb6600149a
open Go.RowKit
set_option linter.unusedVariables false

set_option maxHeartbeats 1000000 in
theorem any21 (base s n : Nat) (t : Int) (vt vm vs : Value) (T M S : List Int) (r : Int) (w : World) (h : SF w base s vt vm vs T M S r) (hsh : Shape T M S) (hn1 : 1 ≤ n) (hn2 : n ≤ 65536) :
    Calls Try.prog 21 #[.pointer (some ⟨s, 0, none⟩), .int .u32 n, .int .i16 t] w fun e w' => e = .returned (.tuple #[]) ∧ Done base s n t vt vm vs T M S r w w' := by
  have HS := hide (set33 base s n t vt vm vs T M S r w h hsh hn1 hn2)
  clear h hsh hn1 hn2
  go_enter Try.func21, Try.ntmps21
  go_wp2_with fail
  refine HS.out.mono ?_
  rintro e w' ⟨rfl, hD⟩
  have HD := hide hD
  clear hD
  go_wp2_with fail
  go_end0
  exact ⟨rfl, HD.out⟩

theorem getD_set (l : List Int) (k : Nat) (v : Int) (h : k < l.length) : (l.set k v).getD k 0 = v := by simp [h]
theorem getD_set_ne (l : List Int) (k j : Nat) (v : Int) (h : k ≠ j) : (l.set k v).getD j 0 = l.getD j 0 := by simp [h]

theorem Done.any {base s n : Nat} {t : Int} {vt vm vs : Value} {T M S : List Int} {r : Int} {w w' : World} (h : Done base s n t vt vm vs T M S r w w') (hn1 : 1 ≤ n) :
    ∃ vt' vm' vs' T' M' S' r', SF w' base s vt' vm' vs' T' M' S' r' ∧ Shape T' M' S' ∧ n ≤ T'.length ∧ T'.getD (n - 1) 0 = t ∧ t ≤ M'.getD ((n - 1) / 256) 0 ∧ Below base w w' := by
  obtain ⟨vt', vm', vs', T1, M1, S1, q, hsh, hn, hq1, hq2, hF, hb, _⟩ := h
  have hM : (n - 1) / 256 < M1.length := by have := hsh.1; omega
  refine ⟨_, _, _, _, _, _, _, hF, ⟨?_, ?_, ?_⟩, ?_, getD_set _ _ _ (by omega), ?_, hb⟩
  · rw [List.length_set, List.length_set]; exact hsh.1
  · rw [List.length_set, List.length_set]; exact hsh.2.1
  · rw [List.length_set]; exact hsh.2.2
  · rw [List.length_set]; exact hn
  · rw [getD_set _ _ _ hM]
    unfold liftV
    split
    · exact Int.le_refl _
    · split
      · have h1 := topOf_ge (fun j => (T1.set (n - 1) t).getD ((n - 1) / 256 * 256 + j) 0) q ((n - 1) % 256) hq2
        have h2 : (n - 1) / 256 * 256 + (n - 1) % 256 = n - 1 := by omega
        simp only [h2] at h1
        rw [getD_set _ _ _ (by omega)] at h1
        exact h1
      · omega

theorem Done.again {base s n : Nat} {t : Int} {vt vm vs : Value} {T M S : List Int} {r : Int} {w w' : World} (h : Done base s n t vt vm vs T M S r w w') (hn : n ≤ T.length) (hT : T.getD (n - 1) 0 = t) (hM : t ≤ M.getD ((n - 1) / 256) 0) :
    SF w' base s vt vm vs T M (S.set ((n - 1) / 256) (IntKind.u64.wrap (S.getD ((n - 1) / 256) 0 + 1))) r ∧ Below base w w' ∧ ∀ k, ¬ Of s vt vm vs k → w'.heap[k]? = w.heap[k]? := by
  obtain ⟨vt', vm', vs', T1, M1, S1, q, hsh, _, hq1, hq2, hF, hb, hx⟩ := h
  obtain ⟨rfl, rfl, rfl, rfl, rfl, rfl, hfr⟩ := hx hn
  refine ⟨?_, hb, hfr⟩
  have e1 : T1.set (n - 1) t = T1 := by rw [← hT]; exact set_same _ _
  have e2 : liftV (M1.getD ((n - 1) / 256) 0) (topOf (fun j => (T1.set (n - 1) t).getD ((n - 1) / 256 * 256 + j) 0) q) (T1.getD (n - 1) 0) t = M1.getD ((n - 1) / 256) 0 := by
    unfold liftV
    rw [hT]
    split
    · omega
    · split
      · omega
      · rfl
  have e3 : (if T1.getD (n - 1) 0 < t then IntKind.u64.wrap (r + 1) else r) = r := by rw [hT]; exact if_neg (by omega)
  rw [e2, e3, e1, set_same] at hF
  exact hF

theorem get26 {base s : Nat} {vt vm vs : Value} {T M S : List Int} {r : Int} {w : World} (h : SF w base s vt vm vs T M S r) :
    Calls Try.prog 26 #[.pointer (some ⟨s, 0, none⟩)] w fun e w' => e = .returned vt ∧ w' = w := by
  obtain ⟨a, c, rfl⟩ := own_shape h.t
  have c0 := h.c0
  clear h
  go_enter Try.func26, Try.ntmps26
  go_wp2
  go_ret
  exact ⟨rfl, rfl⟩

theorem get24 {base s : Nat} {vt vm vs : Value} {T M S : List Int} {r : Int} {w : World} (h : SF w base s vt vm vs T M S r) :
    Calls Try.prog 24 #[.pointer (some ⟨s, 0, none⟩)] w fun e w' => e = .returned vm ∧ w' = w := by
  obtain ⟨a, c, rfl⟩ := own_shape h.m
  have c0 := h.c1
  clear h
  go_enter Try.func24, Try.ntmps24
  go_wp2
  go_ret
  exact ⟨rfl, rfl⟩

theorem get27 {base s : Nat} {vt vm vs : Value} {T M S : List Int} {r : Int} {w : World} (h : SF w base s vt vm vs T M S r) :
    Calls Try.prog 27 #[.pointer (some ⟨s, 0, none⟩)] w fun e w' => e = .returned vs ∧ w' = w := by
  obtain ⟨a, c, rfl⟩ := own_shape h.s
  have c0 := h.c2
  clear h
  go_enter Try.func27, Try.ntmps27
  go_wp2
  go_ret
  exact ⟨rfl, rfl⟩

theorem get28 {base s : Nat} {vt vm vs : Value} {T M S : List Int} {r : Int} {w : World} (h : SF w base s vt vm vs T M S r) :
    Calls Try.prog 28 #[.pointer (some ⟨s, 0, none⟩)] w fun e w' => e = .returned (.int .u64 r) ∧ w' = w := by
  have c0 := h.c3
  clear h
  go_enter Try.func28, Try.ntmps28
  go_wp2
  go_ret
  exact ⟨rfl, rfl⟩

theorem own_reads {k : IntKind} {e : TypeId} {base : Nat} {v : Value} {xs : List Int} {w : World} (h : w.ownsRow base e 1 v xs.length (xs.map (Value.int k))) : Reads k w v xs := by
  by_cases hn : 0 < xs.length
  · obtain ⟨g, c, rfl, _, _⟩ := own_addr h hn
    refine ⟨_, _, rfl, .inr ⟨_, _, rfl⟩, ?_⟩
    intro b off e i hi
    cases e
    rw [Nat.zero_add, h.cellAt i (by omega)]
    simp [hi]
  · obtain ⟨a, c, rfl⟩ := own_shape h
    have : xs = [] := List.eq_nil_of_length_eq_zero (by omega)
    exact ⟨a, c, rfl, .inl this, fun b off _ i hi => absurd hi (by omega)⟩

theorem Reads.frame {k : IntKind} {w w' : World} {v : Value} {xs : List Int} (h : Reads k w v xs) (hk : ∀ a l c, v = .slice (some a) l c → w'.heap[a.block]? = w.heap[a.block]?) : Reads k w' v xs := by
  obtain ⟨a, c, rfl, hn, hx⟩ := h
  refine ⟨a, c, rfl, hn, fun b off e i hi => ?_⟩
  have h0 := hx b off e i hi
  subst e
  have h1 := hk _ _ _ rfl
  simp only at h1
  simp only [World.cell?, h1] at h0 ⊢
  exact h0

end Go.Proofs.Qxb6600149a
