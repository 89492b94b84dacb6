import Derived.Test.Qxb6609323aClones
import Derived.Test.Qxb6609323aMod
namespace Go.Proofs.Qxb6609323a
open Go.RowKit Go.Maps Go.WideElems
set_option linter.unusedVariables false

def tag (j : Nat) : TypeId := if j = 0 then 5 else if j = 2 then 9 else 3
def upd {α : Type} (f : Nat → α) (j : Nat) (x : α) (i : Nat) : α := if i = j then x else f i
theorem upd_same {α : Type} (f : Nat → α) (j : Nat) (x : α) : upd f j x j = x := if_pos rfl
theorem upd_other {α : Type} (f : Nat → α) {j i : Nat} (x : α) (h : i ≠ j) : upd f j x i = f i := if_neg h

/-- the model under way -/
structure Ms (W0 w : World) (p : Nat) (V : Nat → Value) (X : Nat → List Value) (bt wt : Int) : Prop where
  st : w.heap[p]? = some (.cells #[V 0, V 1, V 2, V 3, V 4, V 5, V 6, .int .i64 bt, .int .i64 wt] 32 (0, 0))
  row : ∀ j, j < 7 → w.ownsRow W0.heap.size (tag j) 1 (V j) (X j).length (X j)
  ap : ∀ i j, i < 7 → j < 7 → i ≠ j → ∀ g, (V i).ownBlock = some g → (V j).ownBlock ≠ some g
  ge : W0.heap.size ≤ p
  below : Below W0.heap.size W0 w

theorem tag_ne (j : Nat) : tag j ≠ 32 ∧ tag j ≠ 26 := by
  unfold tag
  split
  · decide
  · split <;> decide

section
variable {W0 w w' : World} {p : Nat} {V : Nat → Value} {X : Nat → List Value} {bt wt : Int}

theorem Ms.ne (h : Ms W0 w p V X bt wt) {j : Nat} (hj : j < 7) : (V j).ownBlock ≠ some p := by
  intro e
  obtain ⟨cur, h1⟩ := own_row (h.row j hj) e
  rw [h.st] at h1
  injection h1 with h1
  injection h1 with _ h1 _
  exact (tag_ne j).1 h1.symm

theorem Ms.same (h : Ms W0 w p V X bt wt) (hp : w'.heap[p]? = w.heap[p]?) (hr : ∀ j, j < 7 → ∀ g, (V j).ownBlock = some g → w'.heap[g]? = w.heap[g]?) (hb : Below W0.heap.size w w') : Ms W0 w' p V X bt wt :=
  ⟨hp.trans h.st, fun j hj => own4_of_block (h.row j hj) (hr j hj), h.ap, h.ge, h.below.trans hb⟩

theorem Ms.later (h : Ms W0 w p V X bt wt) (hb : Below w.heap.size w w') : Ms W0 w' p V X bt wt :=
  h.same (hb.block p (heap_lt h.st)) (fun j hj g e => hb.block g ((h.row j hj).lt g e).2) (hb.mono h.below.size)

theorem Ms.congr {X' : Nat → List Value} (h : Ms W0 w p V X bt wt) (hx : ∀ j, j < 7 → X j = X' j) : Ms W0 w p V X' bt wt :=
  ⟨h.st, fun j hj => by rw [← hx j hj]; exact h.row j hj, h.ap, h.ge, h.below⟩

theorem Ms.cell (h : Ms W0 w p V X bt wt) : w.cell? ⟨p, 0, none⟩ = some (V 0) ∧ w.cell? ⟨p, 1, none⟩ = some (V 1) ∧ w.cell? ⟨p, 2, none⟩ = some (V 2) ∧ w.cell? ⟨p, 3, none⟩ = some (V 3) ∧ w.cell? ⟨p, 4, none⟩ = some (V 4) ∧ w.cell? ⟨p, 5, none⟩ = some (V 5) ∧ w.cell? ⟨p, 6, none⟩ = some (V 6) ∧
    w.cell? ⟨p, 7, none⟩ = some (.int .i64 bt) ∧ w.cell? ⟨p, 8, none⟩ = some (.int .i64 wt) := by
  simp [World.cell?, h.st]
theorem Ms.fz (h : Ms W0 w p V X bt wt) (i : Nat) : w.frozen? ⟨p, i, none⟩ = false := by simp [World.frozen?, h.st]

/-- one cell appended to row j -/
theorem Ms.app (h : Ms W0 w p V X bt wt) {j : Nat} (hj : j < 7) {w1 : World} {v1 : Value} {x : Value} (o : Obj) (ho : w1.ownsRow W0.heap.size (tag j) 1 v1 ((X j).length + 1) (X j ++ [x])) (hg : (w.alloc o).grownBy w1 (V j).ownBlock) (hl : v1.ownBlock = (V j).ownBlock ∨ v1.ownBlock = some (w.alloc o).heap.size) :
    w1.cell? ⟨p, j, none⟩ = some (V j) ∧ w1.frozen? ⟨p, j, none⟩ = false ∧ Ms W0 (w1.setCell ⟨p, j, none⟩ v1) p (upd V j v1) (upd X j (X j ++ [x])) bt wt ∧ ∀ (k : Nat) (c : Array Value), w.heap[k]? = some (.cells c 26 (0, 0)) → (w1.setCell ⟨p, j, none⟩ v1).heap[k]? = some (.cells c 26 (0, 0)) := by
  have hpl := heap_lt h.st
  have hst : w1.heap[p]? = some (.cells #[V 0, V 1, V 2, V 3, V 4, V 5, V 6, .int .i64 bt, .int .i64 wt] 32 (0, 0)) := (hg.block p (by simp; omega) (fun e => h.ne hj e.symm)).trans ((Below.heap_alloc w o p hpl).trans h.st)
  have hv1 : ∀ g, v1.ownBlock = some g → (V j).ownBlock = some g ∨ w.heap.size < g + 1 := by
    intro g e
    rcases hl with h1 | h1
    · exact .inl (h1 ▸ e)
    · rw [h1] at e
      simp at e
      exact .inr (by omega)
  have hsz : w.heap.size ≤ w1.heap.size := Nat.le_trans (by simp) hg.size
  have hbel : Below W0.heap.size W0 w1 := (h.below.alloc h.below.size o).grown hg (by have := h.below.size; simp; omega) (fun k e => ((h.row j hj).lt k e).1)
  refine ⟨?_, by simp [World.frozen?, hst], ⟨?_, fun i hi => ?_, fun i k hi hk hne g e => ?_, h.ge, hbel.setCell h.ge _⟩, fun k c hk => ?_⟩
  · match j, hj with
    | 0, _ | 1, _ | 2, _ | 3, _ | 4, _ | 5, _ | 6, _ => simp [World.cell?, hst]
  · rw [heap_setCell_same w1 p j _ _ v1 hst]
    match j, hj with
    | 0, _ | 1, _ | 2, _ | 3, _ | 4, _ | 5, _ | 6, _ => rfl
  · by_cases hij : i = j
    · subst hij
      rw [upd_same, upd_same]
      refine own4_of_block (w := w1) ?_ (fun g e => Below.heap_setCell _ _ _ _ (fun e' => ?_))
      · rw [List.length_append]; exact ho
      · obtain ⟨cur, h1⟩ := own_row ho e
        have e2 : g = p := e'
        rw [e2, hst] at h1
        injection h1 with h1
        injection h1 with _ h1 _
        exact (tag_ne i).1 h1.symm
    · rw [upd_other _ _ hij, upd_other _ _ hij]
      refine own4_of_block (h.row i hi) (fun g e => ?_)
      have hgl := ((h.row i hi).lt g e).2
      refine (Below.heap_setCell _ _ _ _ (fun e' => h.ne hi (e.trans (congrArg some e')))).trans ((hg.block g (by simp; omega) (fun e' => h.ap i j hi hj hij g e e'.symm)).trans (Below.heap_alloc w o g hgl))
  · by_cases hij : i = j
    · subst hij
      rw [upd_same] at e
      rw [upd_other _ _ (Ne.symm hne)]
      rcases hv1 g e with h1 | h1
      · exact h.ap i k hi hk hne g h1
      · intro e2
        have := ((h.row k hk).lt g e2).2
        omega
    · rw [upd_other _ _ hij] at e
      by_cases hkj : k = j
      · subst hkj
        rw [upd_same]
        intro e2
        rcases hv1 g e2 with h1 | h1
        · exact h.ap i k hi hk hne g e h1
        · have := ((h.row i hi).lt g e).2
          omega
      · rw [upd_other _ _ hkj]
        exact h.ap i k hi hk hne g e
  · have hkl := heap_lt hk
    refine (Below.heap_setCell _ _ _ _ (fun e => ?_)).trans ((hg.block k (by simp; omega) (fun e => ?_)).trans ((Below.heap_alloc w o k hkl).trans hk))
    · have e2 : k = p := e
      rw [e2, h.st] at hk
      cases hk
    · obtain ⟨cur, h1⟩ := own_row (h.row j hj) e.symm
      rw [hk] at h1
      injection h1 with h1
      injection h1 with _ h1 _
      exact (tag_ne j).2 h1.symm

theorem Ms.setB (h : Ms W0 w p V X bt wt) (b' : Int) : Ms W0 (w.setCell ⟨p, 7, none⟩ (.int .i64 b')) p V X b' wt :=
  ⟨heap_setCell_same w p 7 _ _ _ h.st, fun j hj => own4_of_block (h.row j hj) (fun g e => Below.heap_setCell _ _ _ _ (fun e' => h.ne hj (e.trans (congrArg some e')))), h.ap, h.ge, h.below.setCell h.ge _⟩
theorem Ms.setW (h : Ms W0 w p V X bt wt) (b' : Int) : Ms W0 (w.setCell ⟨p, 8, none⟩ (.int .i64 b')) p V X bt b' :=
  ⟨heap_setCell_same w p 8 _ _ _ h.st, fun j hj => own4_of_block (h.row j hj) (fun g e => Below.heap_setCell _ _ _ _ (fun e' => h.ne hj (e.trans (congrArg some e')))), h.ap, h.ge, h.below.setCell h.ge _⟩
theorem Ms.box (h : Ms W0 w p V X bt wt) {k : Nat} {c : Array Value} (hk : w.heap[k]? = some (.cells c 26 (0, 0))) (i : Nat) (u : Value) : (w.setCell ⟨p, i, none⟩ u).heap[k]? = some (.cells c 26 (0, 0)) := by
  refine (Below.heap_setCell _ _ _ _ (fun e => ?_)).trans hk
  have e2 : k = p := e
  rw [e2, h.st] at hk
  cases hk
end

theorem own1_cells {w : World} {base g n cap : Nat} {e : TypeId} {xs : List Value} (h : w.ownsRow base e 1 (.slice (some ⟨g, 0, none⟩) n cap) n xs) : base ≤ g ∧ (∃ cur : Array Value, w.heap[g]? = some (.cells cur e (0, 0)) ∧ n ≤ cur.size ∧ cap = cur.size ∧ cap ≤ maxLen ∧ cur.toList.take n = xs) ∧ xs.length = n := by
  obtain ⟨h0, h | ⟨g', cap', cur, e', h1, h2, h3, h4, h5, h6⟩⟩ := h
  · cases h.1
  · cases e'
    rw [Nat.mul_one] at h0 h5 h6
    exact ⟨h1, ⟨cur, h2, by omega, h5.symm, h4, h6⟩, h0⟩

theorem own1_at {w : World} {base n : Nat} {e : TypeId} {v : Value} {xs : List Value} (h : w.ownsRow base e 1 v n xs) {k : Nat} {x : Value} (hk : xs[k]? = some x) : ∃ g c, v = .slice (some ⟨g, 0, none⟩) n c ∧ w.cell? ⟨g, k, none⟩ = some x ∧ w.frozen? ⟨g, k, none⟩ = false := by
  have hlt := (List.getElem?_eq_some_iff.1 hk).1
  rcases h.2 with ⟨h0, h1⟩ | ⟨g, cap, cur, rfl, h1, h2, h3, h4, h5, h6⟩
  · have := h.1; omega
  · refine ⟨g, cap, rfl, ?_, by simp [World.frozen?, h2]⟩
    rw [← h6] at hk hlt
    rw [List.getElem?_take_of_lt (by simp at hlt; omega)] at hk
    simpa [World.cell?, h2] using hk

section
variable {W0 w : World} {p : Nat} {V : Nat → Value} {X : Nat → List Value} {bt wt : Int}

theorem own1_set {w : World} {base g n cap : Nat} {e : TypeId} {xs : List Value} (h : w.ownsRow base e 1 (.slice (some ⟨g, 0, none⟩) n cap) n xs) {k : Nat} (hk : k < n) (u : Value) : (w.setCell ⟨g, k, none⟩ u).ownsRow base e 1 (.slice (some ⟨g, 0, none⟩) n cap) n (xs.set k u) := by
  obtain ⟨h1, ⟨cur, h2, h3, h4, h5, h6⟩, h7⟩ := own1_cells h
  refine ⟨by simp [h7], .inr ⟨g, cap, cur.setIfInBounds k u, rfl, h1, heap_setCell_same w g k _ _ u h2, by omega, h5, by simp [h4], ?_⟩⟩
  rw [Nat.mul_one, Array.toList_setIfInBounds, ← h6]
  apply List.ext_getElem?
  intro j
  by_cases hj : j < n
  · rw [List.getElem?_take_of_lt hj, List.getElem?_set, List.getElem?_set]
    by_cases hkj : k = j
    · subst hkj
      rw [if_pos rfl, if_pos rfl, if_pos (by simp; omega), if_pos (by simp; omega)]
    · rw [if_neg hkj, if_neg hkj, List.getElem?_take_of_lt hj]
  · rw [List.getElem?_eq_none (by simp; omega), List.getElem?_eq_none (by simp; omega)]

theorem Ms.setRow (h : Ms W0 w p V X bt wt) {j : Nat} (hj : j < 7) {g c k : Nat} (hv : V j = .slice (some ⟨g, 0, none⟩) (X j).length c) (hk : k < (X j).length) (u : Value) : Ms W0 (w.setCell ⟨g, k, none⟩ u) p V (upd X j ((X j).set k u)) bt wt ∧ ∀ (b : Nat) (cc : Array Value), w.heap[b]? = some (.cells cc 26 (0, 0)) → (w.setCell ⟨g, k, none⟩ u).heap[b]? = some (.cells cc 26 (0, 0)) := by
  have hown : (V j).ownBlock = some g := by rw [hv]; rfl
  have hgp : g ≠ p := fun e => h.ne hj (e ▸ hown)
  refine ⟨⟨(Below.heap_setCell _ _ _ _ (Ne.symm hgp)).trans h.st, fun i hi => ?_, h.ap, h.ge, h.below.setCell ((h.row j hj).lt g hown).1 _⟩, fun b cc hb => ?_⟩
  · by_cases hij : i = j
    · subst hij
      rw [upd_same]
      have h1 := h.row i hi
      rw [hv] at h1 ⊢
      rw [List.length_set]
      exact own1_set h1 hk u
    · rw [upd_other _ _ hij]
      refine own4_of_block (h.row i hi) (fun g' e => Below.heap_setCell _ _ _ _ (fun e' => ?_))
      have e2 : g' = g := e'
      exact h.ap i j hi hj hij g' e (e2 ▸ hown)
  · refine (Below.heap_setCell _ _ _ _ (fun e => ?_)).trans hb
    have e2 : b = g := e
    obtain ⟨cur, h1⟩ := own_row (h.row j hj) hown
    rw [e2, h1] at hb
    injection hb with hb
    injection hb with _ hb _
    exact (tag_ne j).2 hb
end

end Go.Proofs.Qxb6609323a
