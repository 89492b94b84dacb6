import Derived.Test.Qxb6609323aModel
import Derived.Test.Qxb6609323aPlain
namespace Go.Proofs.Qxb6609323a
open Go.RowKit Go.Maps Go.WideElems
set_option linter.unusedVariables false

/-- what stands still while the batches are taken -/
structure Env (w : World) (v : Value) (T : List Fr) (pm : Nat) (V : Nat → Value) (K : List (Ky × Int)) (A : List Nat) : Prop where
  fr : (T = [] ∧ ∃ a c, v = .slice a 0 c) ∨ ∃ g cur, v = .slice (some ⟨g, 0, none⟩) T.length T.length ∧ w.heap[g]? = some (.cells cur 26 (0, 0)) ∧ ∀ i f, T[i]? = some f → FAt w g (i * 4) f
  vals : ∀ f ∈ T, ∃ va vl vc, f.v = .slice va vl vc ∧ Vc w 0 va vl
  st : w.heap[pm]? = some (.cells #[V 0, V 1, V 2, V 3, V 4, V 5, V 6, .int .i64 (bsum T), .int .i64 (fsum (wrt T))] 32 (0, 0))
  row : ∀ j, j < 7 → w.ownsRow 0 (tag j) 1 (V j) (XS K A (zl T) j).length (XS K A (zl T) j)

theorem FAt.same {w w' : World} {g o : Nat} {f : Fr} (h : FAt w g o f) (hg : w'.heap[g]? = w.heap[g]?) : FAt w' g o f := by
  obtain ⟨h0, h1, h2, h3⟩ := h
  exact ⟨(World.cell?_of_block (w := w) hg).trans h0, (World.cell?_of_block (w := w) hg).trans h1, (World.cell?_of_block (w := w) hg).trans h2, (World.cell?_of_block (w := w) hg).trans h3⟩

theorem tag_ne2 (j : Nat) : tag j ≠ 47 ∧ tag j ≠ 55 := by
  unfold tag
  split
  · decide
  · split <;> decide

section
variable {w w' : World} {v : Value} {T : List Fr} {pm : Nat} {V : Nat → Value} {K : List (Ky × Int)} {A : List Nat}

theorem Env.stat (h : Env w v T pm V K A) (hs : Stat w w') : Env w' v T pm V K A := by
  refine ⟨?_, fun f hf => ?_, hs pm _ 32 h.st (by decide) (by decide), fun j hj => hs.own (h.row j hj) (tag_ne2 j).1 (tag_ne2 j).2⟩
  · rcases h.fr with h0 | ⟨g, cur, h1, h2, h3⟩
    · exact .inl h0
    · have h4 := hs g cur 26 h2 (by decide) (by decide)
      exact .inr ⟨g, cur, h1, h4, fun i f hf => (h3 i f hf).same (by rw [h4, h2])⟩
  · obtain ⟨va, vl, vc, e, hv⟩ := h.vals f hf
    exact ⟨va, vl, vc, e, hv.stat hs⟩

theorem Env.len (h : Env w v T pm V K A) : ∃ a c, v = .slice a T.length c := by
  rcases h.fr with ⟨h1, a, c, h2⟩ | ⟨g, cur, h1, _⟩
  · exact ⟨a, c, by rw [h2, h1]; rfl⟩
  · exact ⟨_, _, h1⟩

theorem Env.at' (h : Env w v T pm V K A) {i : Nat} {f : Fr} (hf : T[i]? = some f) : ∃ g, v = .slice (some ⟨g, 0, none⟩) T.length T.length ∧ FAt w g (i * 4) f := by
  rcases h.fr with ⟨h1, _⟩ | ⟨g, cur, h1, _, h3⟩
  · rw [h1] at hf; simp at hf
  · exact ⟨g, h1, h3 i f hf⟩

theorem Env.cell (h : Env w v T pm V K A) : w.cell? ⟨pm, 0, none⟩ = some (V 0) ∧ w.cell? ⟨pm, 1, none⟩ = some (V 1) ∧ w.cell? ⟨pm, 2, none⟩ = some (V 2) ∧ w.cell? ⟨pm, 3, none⟩ = some (V 3) ∧ w.cell? ⟨pm, 4, none⟩ = some (V 4) ∧ w.cell? ⟨pm, 5, none⟩ = some (V 5) ∧ w.cell? ⟨pm, 6, none⟩ = some (V 6) ∧
    w.cell? ⟨pm, 7, none⟩ = some (.int .i64 (bsum T)) ∧ w.cell? ⟨pm, 8, none⟩ = some (.int .i64 (fsum (wrt T))) := by
  simp [World.cell?, h.st]

theorem Env.shape (h : Env w v T pm V K A) {j : Nat} (hj : j < 7) : ∃ a c, V j = .slice a (XS K A (zl T) j).length c := by
  rcases (h.row j hj).2 with ⟨h2, h3⟩ | ⟨g', c', _, h2, _⟩
  · exact ⟨_, _, by rw [h2, h3]⟩
  · exact ⟨_, _, h2⟩

/-- the model's entry at key k -/
theorem Env.key (h : Env w v T pm V K A) {k : Nat} {q : Ky} {c : Int} (hk : K[k]? = some (q, c)) : ∃ g0 c0 g1 c1 g2 c2 g3 c3 g4 c4,
    V 0 = .slice (some ⟨g0, 0, none⟩) K.length c0 ∧ V 1 = .slice (some ⟨g1, 0, none⟩) K.length c1 ∧ V 2 = .slice (some ⟨g2, 0, none⟩) K.length c2 ∧ V 3 = .slice (some ⟨g3, 0, none⟩) K.length c3 ∧ V 4 = .slice (some ⟨g4, 0, none⟩) K.length c4 ∧
    w.cell? ⟨g0, k, none⟩ = some (.int .u8 q.1) ∧ w.cell? ⟨g1, k, none⟩ = some (.int .i64 q.2.1) ∧ w.cell? ⟨g2, k, none⟩ = some (.string q.2.2) ∧ w.cell? ⟨g3, k, none⟩ = some (.int .i64 c) ∧ w.cell? ⟨g4, k, none⟩ = some (.int .i64 (szk q)) := by
  obtain ⟨g0, c0, h0, z0, _⟩ := own1_at (h.row 0 (by omega)) (k := k) (x := .int .u8 q.1) (by simp [XS, hk])
  obtain ⟨g1, c1, h1, z1, _⟩ := own1_at (h.row 1 (by omega)) (k := k) (x := .int .i64 q.2.1) (by simp [XS, hk])
  obtain ⟨g2, c2, h2, z2, _⟩ := own1_at (h.row 2 (by omega)) (k := k) (x := .string q.2.2) (by simp [XS, hk])
  obtain ⟨g3, c3, h3, z3, _⟩ := own1_at (h.row 3 (by omega)) (k := k) (x := .int .i64 c) (by simp [XS, hk])
  obtain ⟨g4, c4, h4, z4, _⟩ := own1_at (h.row 4 (by omega)) (k := k) (x := .int .i64 (szk q)) (by simp [XS, hk])
  refine ⟨g0, c0, g1, c1, g2, c2, g3, c3, g4, c4, ?_, ?_, ?_, ?_, ?_, z0, z1, z2, z3, z4⟩
  · rw [h0]; simp [XS]
  · rw [h1]; simp [XS]
  · rw [h2]; simp [XS]
  · rw [h3]; simp [XS]
  · rw [h4]; simp [XS]

/-- the model's WRITE at place j -/
theorem Env.wat (h : Env w v T pm V K A) (ha : Wa T A) {j : Nat} {f : Fr} (hj : (wrt T)[j]? = some f) : ∃ (a g5 c5 g6 c6 : Nat), T[a]? = some f ∧
    V 5 = .slice (some ⟨g5, 0, none⟩) (wrt T).length c5 ∧ V 6 = .slice (some ⟨g6, 0, none⟩) (wrt T).length c6 ∧ w.cell? ⟨g5, j, none⟩ = some (.int .i64 (a : Int)) ∧ w.cell? ⟨g6, j, none⟩ = some (.int .i64 (f.sz : Int)) := by
  have hlt := (List.getElem?_eq_some_iff.1 hj).1
  obtain ⟨a, hA⟩ : ∃ a, A[j]? = some a := ⟨_, List.getElem?_eq_getElem (by have := ha.len; omega)⟩
  obtain ⟨f', h1, h2⟩ := ha.at' j a hA
  rw [hj] at h1
  cases h1
  obtain ⟨g5, c5, h5, z5, _⟩ := own1_at (h.row 5 (by omega)) (k := j) (x := .int .i64 (a : Int)) (by simp [XS, hA])
  obtain ⟨g6, c6, h6, z6, _⟩ := own1_at (h.row 6 (by omega)) (k := j) (x := .int .i64 (f.sz : Int)) (by simp [XS, zl, hj])
  refine ⟨a, g5, c5, g6, c6, h2, ?_, ?_, z5, z6⟩
  · rw [h5]; simp [XS, ha.len]
  · rw [h6]; simp [XS, zl]
end

end Go.Proofs.Qxb6609323a
