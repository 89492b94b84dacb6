import Derived.Test.Qxb6600149aLift
import Derived.Maps.AppendAt
namespace Go.Proofs.Qxb6600149a
open Go.RowKit
set_option linter.unusedVariables false

theorem heap_lt {w : World} {b : Nat} {o : Obj} (h : w.heap[b]? = some o) : b < w.heap.size := by
  rcases Nat.lt_or_ge b w.heap.size with h' | h'
  · exact h'
  · simp [Array.getElem?_eq_none h'] at h

section
variable {w w' : World} {base n : Nat} {e : TypeId} {v : Value} {xs : List Value}

theorem own_shape (h : w.ownsRow base e 1 v n xs) : ∃ a c, v = .slice a n c := by
  rcases h.2 with ⟨rfl, rfl⟩ | ⟨g, cap, cur, rfl, _⟩
  · exact ⟨_, _, rfl⟩
  · exact ⟨_, _, rfl⟩

theorem own_block (h : w.ownsRow base e 1 v n xs) {g : Nat} (hg : v.ownBlock = some g) : ∃ cur, w.heap[g]? = some (.cells cur e (0, 0)) := by
  rcases h.2 with ⟨rfl, _⟩ | ⟨g', cap, cur, rfl, _, h2, _⟩
  · cases hg
  · cases hg; exact ⟨cur, h2⟩

theorem own_of_block (h : w.ownsRow base e 1 v n xs) (hk : ∀ g, v.ownBlock = some g → w'.heap[g]? = w.heap[g]?) : w'.ownsRow base e 1 v n xs := by
  refine ⟨h.1, ?_⟩
  rcases h.2 with h0 | ⟨g, cap, cur, rfl, h1, h2, h3⟩
  · exact .inl h0
  · exact .inr ⟨g, cap, cur, rfl, h1, (hk g rfl).trans h2, h3⟩

/-- where there is an element the row's address is known -/
theorem own_addr (h : w.ownsRow base e 1 v n xs) (hn : 0 < n) : ∃ g c, v = .slice (some ⟨g, 0, none⟩) n c ∧ n ≤ c ∧ c ≤ maxLen := by
  rcases h.2 with ⟨_, h0⟩ | ⟨g, cap, cur, rfl, _, _, h3, h4, _⟩
  · omega
  · exact ⟨g, cap, rfl, h3, h4⟩
end

/-- the marks at block s: their four fields -/
structure SF (w : World) (base s : Nat) (vt vm vs : Value) (T M S : List Int) (r : Int) : Prop where
  st : w.heap[s]? = some (.cells #[vt, vm, vs, .int .u64 r] 40 (0, 0))
  ge : base ≤ s
  t : w.ownsRow base 44 1 vt T.length (T.map (Value.int .i16))
  m : w.ownsRow base 44 1 vm M.length (M.map (Value.int .i16))
  s : w.ownsRow base 38 1 vs S.length (S.map (Value.int .u64))
  ne : vt.ownBlock = none ∨ vt.ownBlock ≠ vm.ownBlock

/-- the blocks of the marks -/
def Of (s : Nat) (vt vm vs : Value) (k : Nat) : Prop := k = s ∨ vt.ownBlock = some k ∨ vm.ownBlock = some k ∨ vs.ownBlock = some k

namespace SF
variable {w w' : World} {base s : Nat} {vt vm vs : Value} {T M S : List Int} {r : Int}

theorem c0 (h : SF w base s vt vm vs T M S r) : w.cell? ⟨s, 0, none⟩ = some vt := by simp [World.cell?, h.st]
theorem c1 (h : SF w base s vt vm vs T M S r) : w.cell? ⟨s, 1, none⟩ = some vm := by simp [World.cell?, h.st]
theorem c2 (h : SF w base s vt vm vs T M S r) : w.cell? ⟨s, 2, none⟩ = some vs := by simp [World.cell?, h.st]
theorem c3 (h : SF w base s vt vm vs T M S r) : w.cell? ⟨s, 3, none⟩ = some (.int .u64 r) := by simp [World.cell?, h.st]
theorem fz (h : SF w base s vt vm vs T M S r) (i : Nat) : w.frozen? ⟨s, i, none⟩ = false := by simp [World.frozen?, h.st]

theorem same (h : SF w base s vt vm vs T M S r) (hk : ∀ k, Of s vt vm vs k → w'.heap[k]? = w.heap[k]?) : SF w' base s vt vm vs T M S r :=
  ⟨(hk s (.inl rfl)).trans h.st, h.ge, own_of_block h.t (fun g e => hk g (.inr (.inl e))), own_of_block h.m (fun g e => hk g (.inr (.inr (.inl e)))), own_of_block h.s (fun g e => hk g (.inr (.inr (.inr e)))), h.ne⟩

theorem lt (h : SF w base s vt vm vs T M S r) : ∀ k, Of s vt vm vs k → base ≤ k ∧ k < w.heap.size := by
  rintro k (rfl | e | e | e)
  · exact ⟨h.ge, heap_lt h.st⟩
  · exact h.t.lt k e
  · exact h.m.lt k e
  · exact h.s.lt k e

theorem later (h : SF w base s vt vm vs T M S r) (hb : Below w.heap.size w w') : SF w' base s vt vm vs T M S r := h.same (fun k hk => hb.block k (h.lt k hk).2)
theorem alloc (h : SF w base s vt vm vs T M S r) (o : Obj) : SF (w.alloc o) base s vt vm vs T M S r := h.later ((Below.refl _ _).alloc (Nat.le_refl _) o)
theorem drew (h : SF w base s vt vm vs T M S r) : SF w.drew base s vt vm vs T M S r := h.same (fun _ _ => rfl)

theorem ne_t (h : SF w base s vt vm vs T M S r) : ∀ g, vt.ownBlock = some g → g ≠ s := by
  rintro g e rfl
  obtain ⟨cur, hc⟩ := own_block h.t e
  rw [h.st] at hc; simp at hc
theorem ne_m (h : SF w base s vt vm vs T M S r) : ∀ g, vm.ownBlock = some g → g ≠ s := by
  rintro g e rfl
  obtain ⟨cur, hc⟩ := own_block h.m e
  rw [h.st] at hc; simp at hc
theorem ne_s (h : SF w base s vt vm vs T M S r) : ∀ g, vs.ownBlock = some g → g ≠ s := by
  rintro g e rfl
  obtain ⟨cur, hc⟩ := own_block h.s e
  rw [h.st] at hc; simp at hc
theorem ne_ts (h : SF w base s vt vm vs T M S r) : ∀ g, vt.ownBlock = some g → vs.ownBlock ≠ some g := by
  intro g e e'
  obtain ⟨cur, hc⟩ := own_block h.t e
  obtain ⟨cur', hc'⟩ := own_block h.s e'
  rw [hc] at hc'; simp at hc'
theorem ne_ms (h : SF w base s vt vm vs T M S r) : ∀ g, vm.ownBlock = some g → vs.ownBlock ≠ some g := by
  intro g e e'
  obtain ⟨cur, hc⟩ := own_block h.m e
  obtain ⟨cur', hc'⟩ := own_block h.s e'
  rw [hc] at hc'; simp at hc'
theorem ne_tm (h : SF w base s vt vm vs T M S r) : ∀ g, vt.ownBlock = some g → vm.ownBlock ≠ some g := by
  intro g e e'
  rcases h.ne with h0 | h0
  · rw [h0] at e; cases e
  · exact h0 (e.trans e'.symm)
end SF

section
variable {w w1 : World} {base s : Nat} {vt vm vs v' : Value} {T M S : List Int} {r x : Int}

/-- a store into a cell of the struct -/
theorem st_set (h : SF w base s vt vm vs T M S r) (i : Nat) (u : Value) (g : Nat) (hg : g ≠ s) : (w.setCell ⟨s, i, none⟩ u).heap[g]? = w.heap[g]? := heap_setCell_other _ _ _ _ (by exact hg)

theorem SF.appT (h : SF w base s vt vm vs T M S r) (ho : w1.ownsRow base 44 1 v' (T.length + 1) (T.map (Value.int .i16) ++ [.int .i16 x])) (hg : w.grownBy w1 vt.ownBlock) (hl : v'.ownBlock = vt.ownBlock ∨ v'.ownBlock = some w.heap.size) :
    SF (w1.setCell ⟨s, 0, none⟩ v') base s v' vm vs (T ++ [x]) M S r ∧ Below base w (w1.setCell ⟨s, 0, none⟩ v') := by
  have hs1 : w1.heap[s]? = some (.cells #[vt, vm, vs, .int .u64 r] 40 (0, 0)) := (hg.block s (heap_lt h.st) (fun e => h.ne_t s e.symm rfl)).trans h.st
  have hnew : ∀ g, v'.ownBlock = some g → g ≠ s := by
    intro g e
    rcases hl with h1 | h1
    · exact h.ne_t g (h1.symm.trans e)
    · rw [h1] at e; cases e
      have := heap_lt h.st; omega
  refine ⟨⟨?_, h.ge, ?_, ?_, ?_, ?_⟩, ((Below.refl _ _).grown hg ?_ (fun k e => (h.t.lt k e).1)).setCell h.ge _⟩
  · rw [heap_setCell_same w1 s 0 _ _ v' hs1]; rfl
  · refine own_of_block (w := w1) ?_ (fun g e => heap_setCell_other _ _ _ _ (by exact hnew g e))
    simpa using ho
  · exact own_of_block (h.m.kept hg (by
      cases hm : vm.ownBlock with
      | none => exact .inl rfl
      | some g => exact .inr (fun e => h.ne_tm g e.symm hm))) (fun g e => heap_setCell_other _ _ _ _ (by exact h.ne_m g e))
  · exact own_of_block (h.s.kept hg (by
      cases hm : vs.ownBlock with
      | none => exact .inl rfl
      | some g => exact .inr (fun e => h.ne_ts g e.symm hm))) (fun g e => heap_setCell_other _ _ _ _ (by exact h.ne_s g e))
  · rcases hl with h1 | h1
    · rw [h1]; exact h.ne
    · right
      rw [h1]
      intro e
      have := (h.m.lt _ e.symm).2
      omega
  · exact Nat.le_trans h.ge (Nat.le_of_lt (heap_lt h.st))

theorem SF.appM (h : SF w base s vt vm vs T M S r) (ho : w1.ownsRow base 44 1 v' (M.length + 1) (M.map (Value.int .i16) ++ [.int .i16 x])) (hg : w.grownBy w1 vm.ownBlock) (hl : v'.ownBlock = vm.ownBlock ∨ v'.ownBlock = some w.heap.size) :
    SF (w1.setCell ⟨s, 1, none⟩ v') base s vt v' vs T (M ++ [x]) S r ∧ Below base w (w1.setCell ⟨s, 1, none⟩ v') := by
  have hs1 : w1.heap[s]? = some (.cells #[vt, vm, vs, .int .u64 r] 40 (0, 0)) := (hg.block s (heap_lt h.st) (fun e => h.ne_m s e.symm rfl)).trans h.st
  have hnew : ∀ g, v'.ownBlock = some g → g ≠ s := by
    intro g e
    rcases hl with h1 | h1
    · exact h.ne_m g (h1.symm.trans e)
    · rw [h1] at e; cases e
      have := heap_lt h.st; omega
  refine ⟨⟨?_, h.ge, ?_, ?_, ?_, ?_⟩, ((Below.refl _ _).grown hg ?_ (fun k e => (h.m.lt k e).1)).setCell h.ge _⟩
  · rw [heap_setCell_same w1 s 1 _ _ v' hs1]; rfl
  · exact own_of_block (h.t.kept hg (by
      cases hm : vt.ownBlock with
      | none => exact .inl rfl
      | some g => exact .inr (fun e => h.ne_tm g hm e.symm))) (fun g e => heap_setCell_other _ _ _ _ (by exact h.ne_t g e))
  · refine own_of_block (w := w1) ?_ (fun g e => heap_setCell_other _ _ _ _ (by exact hnew g e))
    simpa using ho
  · exact own_of_block (h.s.kept hg (by
      cases hm : vs.ownBlock with
      | none => exact .inl rfl
      | some g => exact .inr (fun e => h.ne_ms g e.symm hm))) (fun g e => heap_setCell_other _ _ _ _ (by exact h.ne_s g e))
  · cases ht : vt.ownBlock with
    | none => exact .inl rfl
    | some g =>
      right
      intro e
      rcases hl with h1 | h1
      · exact h.ne_tm g ht (by rw [← h1, ← e])
      · rw [h1] at e; cases e
        have := (h.t.lt _ ht).2
        omega
  · exact Nat.le_trans h.ge (Nat.le_of_lt (heap_lt h.st))

theorem SF.appS (h : SF w base s vt vm vs T M S r) (ho : w1.ownsRow base 38 1 v' (S.length + 1) (S.map (Value.int .u64) ++ [.int .u64 x])) (hg : w.grownBy w1 vs.ownBlock) (hl : v'.ownBlock = vs.ownBlock ∨ v'.ownBlock = some w.heap.size) :
    SF (w1.setCell ⟨s, 2, none⟩ v') base s vt vm v' T M (S ++ [x]) r ∧ Below base w (w1.setCell ⟨s, 2, none⟩ v') := by
  have hs1 : w1.heap[s]? = some (.cells #[vt, vm, vs, .int .u64 r] 40 (0, 0)) := (hg.block s (heap_lt h.st) (fun e => h.ne_s s e.symm rfl)).trans h.st
  have hnew : ∀ g, v'.ownBlock = some g → g ≠ s := by
    intro g e
    rcases hl with h1 | h1
    · exact h.ne_s g (h1.symm.trans e)
    · rw [h1] at e; cases e
      have := heap_lt h.st; omega
  refine ⟨⟨?_, h.ge, ?_, ?_, ?_, h.ne⟩, ((Below.refl _ _).grown hg ?_ (fun k e => (h.s.lt k e).1)).setCell h.ge _⟩
  · rw [heap_setCell_same w1 s 2 _ _ v' hs1]; rfl
  · exact own_of_block (h.t.kept hg (by
      cases hm : vt.ownBlock with
      | none => exact .inl rfl
      | some g => exact .inr (fun e => h.ne_ts g hm e.symm))) (fun g e => heap_setCell_other _ _ _ _ (by exact h.ne_t g e))
  · exact own_of_block (h.m.kept hg (by
      cases hm : vm.ownBlock with
      | none => exact .inl rfl
      | some g => exact .inr (fun e => h.ne_ms g hm e.symm))) (fun g e => heap_setCell_other _ _ _ _ (by exact h.ne_m g e))
  · refine own_of_block (w := w1) ?_ (fun g e => heap_setCell_other _ _ _ _ (by exact hnew g e))
    simpa using ho
  · exact Nat.le_trans h.ge (Nat.le_of_lt (heap_lt h.st))

theorem SF.setR (h : SF w base s vt vm vs T M S r) (u : Int) : SF (w.setCell ⟨s, 3, none⟩ (.int .u64 u)) base s vt vm vs T M S u := by
  refine ⟨?_, h.ge, own_of_block h.t (fun g e => heap_setCell_other _ _ _ _ (by exact h.ne_t g e)), own_of_block h.m (fun g e => heap_setCell_other _ _ _ _ (by exact h.ne_m g e)), own_of_block h.s (fun g e => heap_setCell_other _ _ _ _ (by exact h.ne_s g e)), h.ne⟩
  rw [heap_setCell_same w s 3 _ _ _ h.st]; rfl

theorem SF.setT {g c : Nat} (h : SF w base s (.slice (some ⟨g, 0, none⟩) T.length c) vm vs T M S r) (j : Nat) (u : Int) :
    SF (w.setCell ⟨g, j, none⟩ (.int .i16 u)) base s (.slice (some ⟨g, 0, none⟩) T.length c) vm vs (T.set j u) M S r := by
  have hgs := h.ne_t g rfl
  refine ⟨?_, h.ge, ?_, own_of_block h.m (fun k e => heap_setCell_other _ _ _ _ (by rintro rfl; exact h.ne_tm _ rfl e)), own_of_block h.s (fun k e => heap_setCell_other _ _ _ _ (by rintro rfl; exact h.ne_ts _ rfl e)), h.ne⟩
  · rw [heap_setCell_other _ _ _ _ (by exact fun e => hgs e.symm)]; exact h.st
  · have := (h.t.stored j (.int .i16 u)).1
    simpa [List.map_set] using this

theorem SF.setM {g c : Nat} (h : SF w base s vt (.slice (some ⟨g, 0, none⟩) M.length c) vs T M S r) (j : Nat) (u : Int) :
    SF (w.setCell ⟨g, j, none⟩ (.int .i16 u)) base s vt (.slice (some ⟨g, 0, none⟩) M.length c) vs T (M.set j u) S r := by
  have hgs := h.ne_m g rfl
  refine ⟨?_, h.ge, own_of_block h.t (fun k e => heap_setCell_other _ _ _ _ (by rintro rfl; exact h.ne_tm _ e rfl)), ?_, own_of_block h.s (fun k e => heap_setCell_other _ _ _ _ (by rintro rfl; exact h.ne_ms _ rfl e)), h.ne⟩
  · rw [heap_setCell_other _ _ _ _ (by exact fun e => hgs e.symm)]; exact h.st
  · have := (h.m.stored j (.int .i16 u)).1
    simpa [List.map_set] using this

theorem SF.setS {g c : Nat} (h : SF w base s vt vm (.slice (some ⟨g, 0, none⟩) S.length c) T M S r) (j : Nat) (u : Int) :
    SF (w.setCell ⟨g, j, none⟩ (.int .u64 u)) base s vt vm (.slice (some ⟨g, 0, none⟩) S.length c) T M (S.set j u) r := by
  have hgs := h.ne_s g rfl
  refine ⟨?_, h.ge, own_of_block h.t (fun k e => heap_setCell_other _ _ _ _ (by rintro rfl; exact h.ne_ts _ e rfl)), own_of_block h.m (fun k e => heap_setCell_other _ _ _ _ (by rintro rfl; exact h.ne_ms _ e rfl)), ?_, h.ne⟩
  · rw [heap_setCell_other _ _ _ _ (by exact fun e => hgs e.symm)]; exact h.st
  · have := (h.s.stored j (.int .u64 u)).1
    simpa [List.map_set] using this

theorem SF.cellT {g c : Nat} (h : SF w base s (.slice (some ⟨g, 0, none⟩) T.length c) vm vs T M S r) (j : Nat) (hj : j < T.length) : w.cell? ⟨g, j, none⟩ = some (.int .i16 (T.getD j 0)) ∧ w.frozen? ⟨g, j, none⟩ = false := by
  refine ⟨?_, h.t.frozenAt j⟩
  rw [h.t.cellAt j (by omega)]; simp [hj]
theorem SF.cellM {g c : Nat} (h : SF w base s vt (.slice (some ⟨g, 0, none⟩) M.length c) vs T M S r) (j : Nat) (hj : j < M.length) : w.cell? ⟨g, j, none⟩ = some (.int .i16 (M.getD j 0)) ∧ w.frozen? ⟨g, j, none⟩ = false := by
  refine ⟨?_, h.m.frozenAt j⟩
  rw [h.m.cellAt j (by omega)]; simp [hj]
theorem SF.cellS {g c : Nat} (h : SF w base s vt vm (.slice (some ⟨g, 0, none⟩) S.length c) T M S r) (j : Nat) (hj : j < S.length) : w.cell? ⟨g, j, none⟩ = some (.int .u64 (S.getD j 0)) ∧ w.frozen? ⟨g, j, none⟩ = false := by
  refine ⟨?_, h.s.frozenAt j⟩
  rw [h.s.cellAt j (by omega)]; simp [hj]
end

end Go.Proofs.Qxb6600149a
