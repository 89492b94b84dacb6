import Derived.Test.Qxb6609323aLq
namespace Go.Proofs.Qxb6609323a
open Go.RowKit
set_option linter.unusedVariables false

def Fr.q (f : Fr) : Ky := (f.k, f.o, f.s)
/-- how many READs and PROCEEDs have key q -/
def bc (T : List Fr) (q : Ky) : Int := (T.countP (fun f => decide (1 < f.k) && decide (f.q = q)) : Nat)
def wrt (T : List Fr) : List Fr := T.filter (fun f => decide (f.k ≤ 1))
def bsum (T : List Fr) : Int := (T.map fun f => if 1 < f.k then szk f.q else 0).sum

theorem bc_append (T : List Fr) (f : Fr) (q : Ky) : bc (T ++ [f]) q = bc T q + (if 1 < f.k ∧ f.q = q then 1 else 0) := by
  unfold bc
  rw [List.countP_append, List.countP_cons, List.countP_nil]
  by_cases h : 1 < f.k ∧ f.q = q
  · rw [if_pos h]; simp [h]
  · rw [if_neg h]
    have : (decide (1 < f.k) && decide (f.q = q)) = false := by
      rw [Bool.and_eq_false_iff]
      by_cases h1 : 1 < f.k
      · right; exact decide_eq_false (fun h2 => h ⟨h1, h2⟩)
      · left; exact decide_eq_false h1
    simp [this]
theorem bc_nil (q : Ky) : bc [] q = 0 := rfl
theorem bc_nonneg (T : List Fr) (q : Ky) : 0 ≤ bc T q := by unfold bc; omega
theorem bc_pos {T : List Fr} {q : Ky} (h : 0 < bc T q) : ∃ f ∈ T, 1 < f.k ∧ f.q = q := by
  unfold bc at h
  have h1 : 0 < T.countP (fun f => decide (1 < f.k) && decide (f.q = q)) := by omega
  obtain ⟨f, hf, h2⟩ := List.countP_pos_iff.1 h1
  simp at h2
  exact ⟨f, hf, h2.1, h2.2⟩
theorem wrt_append (T : List Fr) (f : Fr) : wrt (T ++ [f]) = if f.k ≤ 1 then wrt T ++ [f] else wrt T := by
  unfold wrt
  rw [List.filter_append]
  by_cases h : f.k ≤ 1
  · rw [if_pos h]; simp [h]
  · rw [if_neg h]
    simp
    omega
theorem bsum_append (T : List Fr) (f : Fr) : bsum (T ++ [f]) = bsum T + (if 1 < f.k then szk f.q else 0) := by simp [bsum]

/-- the model's keys -/
structure M (T : List Fr) (K : List (Ky × Int)) : Prop where
  nd : (K.map (·.1)).Nodup
  ct : ∀ e ∈ K, e.2 = bc T e.1
  al : ∀ f ∈ T, 1 < f.k → f.q ∈ K.map (·.1)
  src : ∀ q ∈ K.map (·.1), ∃ f ∈ T, f.q = q

def incK (K : List (Ky × Int)) (q : Ky) : List (Ky × Int) := K.map fun e => if e.1 = q then (e.1, e.2 + 1) else e

theorem incK_keys (K : List (Ky × Int)) (q : Ky) : (incK K q).map (·.1) = K.map (·.1) := by
  unfold incK
  rw [List.map_map]
  refine List.map_congr_left fun e _ => ?_
  simp only [Function.comp]
  split <;> rfl

theorem M.nil : M [] [] := ⟨by simp, by simp, by simp, by simp⟩

theorem M.write {T : List Fr} {K : List (Ky × Int)} (h : M T K) {f : Fr} (hf : ¬ 1 < f.k) : M (T ++ [f]) K := by
  refine ⟨h.nd, fun e he => ?_, fun f' hf' hk => ?_, fun q hq => by obtain ⟨f0, h0, h1⟩ := h.src q hq; exact ⟨f0, List.mem_append_left _ h0, h1⟩⟩
  · rw [bc_append, if_neg (fun h1 => hf h1.1), h.ct e he]; omega
  · rcases List.mem_append.1 hf' with h1 | h1
    · exact h.al f' h1 hk
    · simp at h1; subst h1; exact absurd hk hf

theorem M.inc {T : List Fr} {K : List (Ky × Int)} (h : M T K) {f : Fr} (hf : 1 < f.k) (hq : f.q ∈ K.map (·.1)) : M (T ++ [f]) (incK K f.q) := by
  refine ⟨by rw [incK_keys]; exact h.nd, fun e he => ?_, fun f' hf' hk => ?_, fun q hq' => by rw [incK_keys] at hq'; obtain ⟨f0, h0, h1⟩ := h.src q hq'; exact ⟨f0, List.mem_append_left _ h0, h1⟩⟩
  · unfold incK at he
    obtain ⟨x, hx, rfl⟩ := List.mem_map.1 he
    rw [bc_append]
    split
    · rename_i h1
      simp only
      rw [if_pos ⟨hf, h1.symm⟩, h.ct x hx]
    · rename_i h1
      rw [if_neg (fun h2 => h1 h2.2.symm), h.ct x hx]; omega
  · rw [incK_keys]
    rcases List.mem_append.1 hf' with h1 | h1
    · exact h.al f' h1 hk
    · simp at h1; subst h1; exact hq

theorem M.new {T : List Fr} {K : List (Ky × Int)} (h : M T K) {f : Fr} (hf : 1 < f.k) (hq : f.q ∉ K.map (·.1)) : M (T ++ [f]) (K ++ [(f.q, 1)]) := by
  refine ⟨?_, fun e he => ?_, fun f' hf' hk => ?_, fun q hq' => ?_⟩
  · rw [List.map_append, List.nodup_append]
    refine ⟨h.nd, by simp, fun a ha b hb e => ?_⟩
    simp at hb
    rw [hb] at e
    exact hq (e ▸ ha)
  · rcases List.mem_append.1 he with h1 | h1
    · rw [bc_append, if_neg (fun h2 : 1 < f.k ∧ f.q = e.1 => hq (by rw [h2.2]; exact List.mem_map.2 ⟨e, h1, rfl⟩)), h.ct e h1]; omega
    · simp at h1
      subst h1
      rw [bc_append, if_pos ⟨hf, rfl⟩]
      have : bc T f.q = 0 := by
        have h2 := bc_nonneg T f.q
        rcases Int.lt_or_eq_of_le h2 with h3 | h3
        · obtain ⟨f', hf', h4, h5⟩ := bc_pos h3
          exact absurd (h5 ▸ h.al f' hf' h4) hq
        · exact h3.symm
      rw [this]; rfl
  · rw [List.map_append]
    rcases List.mem_append.1 hf' with h1 | h1
    · exact List.mem_append_left _ (h.al f' h1 hk)
    · simp at h1; subst h1; exact List.mem_append_right _ (by simp)
  · rw [List.map_append] at hq'
    rcases List.mem_append.1 hq' with h1 | h1
    · obtain ⟨f0, h0, h2⟩ := h.src q h1
      exact ⟨f0, List.mem_append_left _ h0, h2⟩
    · simp at h1
      exact ⟨f, List.mem_append_right _ (by simp), h1.symm⟩

theorem incK_count {K : List (Ky × Int)} {q : Ky} (hn : (K.map (·.1)).Nodup) {k : Nat} {c : Int} (hk : K[k]? = some (q, c)) : (incK K q).map (fun e => Value.int .i64 e.2) = (K.map (fun e => Value.int .i64 e.2)).set k (.int .i64 (c + 1)) := by
  apply List.ext_getElem?
  intro j
  unfold incK
  rw [List.map_map, List.getElem?_set]
  by_cases hj : k = j
  · subst hj
    have hlt := (List.getElem?_eq_some_iff.1 hk).1
    rw [if_pos rfl, if_pos (by simpa using hlt), List.getElem?_map, hk]
    simp
  · rw [if_neg hj, List.getElem?_map, List.getElem?_map]
    cases hx : K[j]? with
    | none => rfl
    | some e =>
      simp only [Option.map_some, Function.comp]
      rw [if_neg]
      intro e1
      have h1 : (K.map (·.1))[k]? = some q := by rw [List.getElem?_map, hk]; rfl
      have h2 : (K.map (·.1))[j]? = some q := by rw [List.getElem?_map, hx, ← e1]; rfl
      have hlt := (List.getElem?_eq_some_iff.1 h1).1
      exact hj ((List.getElem?_inj hlt hn).1 (h1.trans h2.symm))

/-- which frames are WRITEs -/
structure Wa (T : List Fr) (A : List Nat) : Prop where
  len : A.length = (wrt T).length
  at' : ∀ (j a : Nat), A[j]? = some a → ∃ f, (wrt T)[j]? = some f ∧ T[a]? = some f

theorem Wa.nil : Wa [] [] := ⟨rfl, fun j a h => by simp at h⟩
theorem Wa.bare {T : List Fr} {A : List Nat} (h : Wa T A) {f : Fr} (hf : ¬ f.k ≤ 1) : Wa (T ++ [f]) A := by
  have e : wrt (T ++ [f]) = wrt T := by rw [wrt_append, if_neg hf]
  refine ⟨by rw [e]; exact h.len, fun j a ha => ?_⟩
  obtain ⟨f', h1, h2⟩ := h.at' j a ha
  have hlt := (List.getElem?_eq_some_iff.1 h2).1
  exact ⟨f', by rw [e]; exact h1, by rw [List.getElem?_append_left hlt]; exact h2⟩
theorem Wa.write {T : List Fr} {A : List Nat} (h : Wa T A) {f : Fr} (hf : f.k ≤ 1) : Wa (T ++ [f]) (A ++ [T.length]) := by
  have e : wrt (T ++ [f]) = wrt T ++ [f] := by rw [wrt_append, if_pos hf]
  refine ⟨by rw [e]; simp [h.len], fun j a ha => ?_⟩
  rw [e]
  by_cases hj : j < A.length
  · rw [List.getElem?_append_left hj] at ha
    obtain ⟨f', h1, h2⟩ := h.at' j a ha
    have hlt := (List.getElem?_eq_some_iff.1 h2).1
    exact ⟨f', by rw [List.getElem?_append_left (by have := h.len; omega)]; exact h1, by rw [List.getElem?_append_left hlt]; exact h2⟩
  · have hjl := (List.getElem?_eq_some_iff.1 ha).1
    simp at hjl
    have hje : j = A.length := by omega
    subst hje
    rw [List.getElem?_append_right (Nat.le_refl _), Nat.sub_self] at ha
    simp at ha
    subst ha
    refine ⟨f, ?_, ?_⟩
    · rw [h.len, List.getElem?_append_right (Nat.le_refl _), Nat.sub_self]; rfl
    · rw [List.getElem?_append_right (Nat.le_refl _), Nat.sub_self]; rfl

end Go.Proofs.Qxb6609323a
