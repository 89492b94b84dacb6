import Derived.Test.Qxb6609323aModel
import Derived.Test.Qxb6609323aPlain
namespace Go.Proofs.Qxb6609323a
open Go.RowKit Go.Maps Go.WideElems
set_option linter.unusedVariables false

def Fr.wt (f : Fr) : Int := 40 + (f.s.size : Int) + (vlen f.v : Int)
def wsum (T : List Fr) : Int := (T.map Fr.wt).sum
theorem wsum_snoc {T : List Fr} {i : Nat} {f : Fr} (h : T[i]? = some f) : wsum (T.take (i + 1)) = wsum (T.take i) + f.wt := by
  rw [take_snoc h]; simp [wsum]
theorem wsum_d {T T' : List Fr} (h : T'.map Fr.d = T.map Fr.d) : wsum T' = wsum T := by
  have e : ∀ L : List Fr, wsum L = ((L.map Fr.d).map fun d => 40 + (d.2.2.1.size : Int) + (d.2.2.2 : Int)).sum := by
    intro L
    unfold wsum
    rw [List.map_map]
    rfl
  rw [e, e, h]
theorem sz_le {f : Fr} (h1 : f.s.size ≤ 1048576) (h2 : vlen f.v ≤ 1048576) : (f.sz : Int) ≤ f.wt := by
  have := fsz_le (k := f.k) (o := f.o) h1 h2
  unfold Fr.sz Fr.wt
  omega
theorem szk_le {f : Fr} (h1 : f.s.size ≤ 1048576) : szk f.q ≤ f.wt := by
  have := fsz_le (k := f.k) (o := f.o) (b := 0) h1 (by omega)
  unfold szk Fr.q Fr.wt
  simp only
  omega
/-- the sizes are no more than the weight -/
theorem sum_le {T : List Fr} (h : ∀ f ∈ T, f.s.size ≤ 1048576 ∧ vlen f.v ≤ 1048576) : fsum (wrt T) + bsum T ≤ wsum T := by
  induction T with
  | nil => exact Int.le_refl 0
  | cons f r ih =>
    have h1 := ih (fun x hx => h x (List.mem_cons_of_mem _ hx))
    obtain ⟨h2, h3⟩ := h f (List.mem_cons_self ..)
    have e1 : wsum (f :: r) = f.wt + wsum r := by simp [wsum]
    have e2 : bsum (f :: r) = (if 1 < f.k then szk f.q else 0) + bsum r := by simp [bsum]
    have e3 : fsum (wrt (f :: r)) = (if f.k ≤ 1 then (f.sz : Int) else 0) + fsum (wrt r) := by
      unfold wrt
      by_cases hk : f.k ≤ 1
      · rw [List.filter_cons_of_pos (by simpa using hk), fsum_cons, if_pos hk]
      · rw [List.filter_cons_of_neg (by simpa using hk), if_neg hk]; omega
    have h4 := sz_le h2 h3
    have h5 := szk_le (f := f) h2
    rw [e1, e2, e3]
    by_cases hk : f.k ≤ 1
    · rw [if_pos hk, if_neg (by omega)]; omega
    · rw [if_neg hk, if_pos (by omega)]; omega

/-- what the law has asked of its frames -/
structure Asked (T : List Fr) (room : Int) : Prop where
  len : T.length ≤ 4096
  bnd : ∀ f ∈ T, f.s.size ≤ 1048576 ∧ vlen f.v ≤ 1048576
  wt : wsum T ≤ 1048576
  k3 : ∀ f ∈ T, f.k ≤ 3
  fits : ∀ f ∈ T, 2 ≤ f.k → szk f.q < room

theorem mem_d {T T' : List Fr} (h : T'.map Fr.d = T.map Fr.d) {f : Fr} (hf : f ∈ T') : ∃ f0 ∈ T, f0.k = f.k ∧ f0.o = f.o ∧ f0.s = f.s ∧ vlen f0.v = vlen f.v := by
  have h1 : f.d ∈ T.map Fr.d := by rw [← h]; exact List.mem_map.2 ⟨f, hf, rfl⟩
  obtain ⟨f0, h2, h3⟩ := List.mem_map.1 h1
  unfold Fr.d at h3
  simp at h3
  exact ⟨f0, h2, h3.1, h3.2.1, h3.2.2.1, h3.2.2.2⟩

theorem Asked.d {T T' : List Fr} {room : Int} (h : Asked T room) (hd : T'.map Fr.d = T.map Fr.d) : Asked T' room := by
  have hl : T'.length = T.length := by have := congrArg List.length hd; simpa using this
  refine ⟨by rw [hl]; exact h.len, fun f hf => ?_, by rw [wsum_d hd]; exact h.wt, fun f hf => ?_, fun f hf hk => ?_⟩
  · obtain ⟨f0, h0, h1, h2, h3, h4⟩ := mem_d hd hf
    rw [← h3, ← h4]; exact h.bnd f0 h0
  · obtain ⟨f0, h0, h1, h2, h3, h4⟩ := mem_d hd hf
    rw [← h1]; exact h.k3 f0 h0
  · obtain ⟨f0, h0, h1, h2, h3, h4⟩ := mem_d hd hf
    have := h.fits f0 h0 (by omega)
    unfold Fr.q at *
    rw [h1, h2, h3] at this
    exact this

end Go.Proofs.Qxb6609323a
