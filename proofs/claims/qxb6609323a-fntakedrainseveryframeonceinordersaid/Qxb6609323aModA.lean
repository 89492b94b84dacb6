import Derived.Test.Qxb6609323aMs
namespace Go.Proofs.Qxb6609323a
open Go.RowKit Go.Maps Go.WideElems
set_option linter.unusedVariables false

theorem info3 : (Try.prog.info? 3).map (fun i => (i.zero, i.size, i.bytes)) = some (some (.int .i64 0), 1, 8) := by kernel_rfl
theorem info9 : (Try.prog.info? 9).map (fun i => (i.zero, i.size, i.bytes)) = some (some (.string ByteArray.empty), 1, 16) := by kernel_rfl

theorem wpList_append_eq {w w' : World} {ops : Array Oper} {rest : List Oper} {o : Oper} {a : Act} {Q : Exit → Act → World → Prop} (hgd : o.guard = none) (s x : Operand) (T : TypeId) (ho : o.op = .call { callee := .builtin .append, args := #[s, x], argTypes := #[T, T] })
    (v xv v' : Value) (hs : a.eval s = v) (hx : a.eval x = xv) (hrun : (Builtin.append_ #[T, T] T #[v, xv]).run Try.prog w = .ok v' w') (hty : o.type = T) (h : wpList Try.prog ops Q rest (a.put o.dst v') w') : wpList Try.prog ops Q (o :: rest) a w := by
  refine wpList_plain hgd fun K hK => ?_
  unfold Oper.wp execOp
  rw [← hty] at hrun
  simp only [ho, resolve, invoke, builtin, Sem.run_bind, Sem.run_pure, Result.andThen_ok, List.map_toArray, List.map_cons, List.map_nil, hs, hx]
  rw [← hty]
  simp only [hrun, Result.andThen_ok]
  exact hK _ _ h

def Tj (T j : Nat) : Prop := (T = 24 ∧ j = 0) ∨ (T = 30 ∧ j = 2) ∨ (T = 29 ∧ j ≠ 0 ∧ j ≠ 2)

theorem Ms.run {W0 W : World} {p : Nat} {V : Nat → Value} {X : Nat → List Value} {bt wt : Int} (h : Ms W0 W p V X bt wt) (T j : Nat) (hj : j < 7) (hT : Tj T j) (x : Value) (hx : x.oneCell' = true) (hlen : (X j).length ≤ 100000) (t' : TypeId) :
    ∃ a n c w1, (Builtin.append_ #[T, T] T #[V j, .slice (some ⟨W.heap.size, 0, none⟩) 1 1]).run Try.prog (W.alloc (.cells #[x] t' (0, 0))) = .ok (.slice a n c) w1 ∧ w1.cell? ⟨p, j, none⟩ = some (V j) ∧ w1.frozen? ⟨p, j, none⟩ = false ∧
      Ms W0 (w1.setCell ⟨p, j, none⟩ (.slice a n c)) p (upd V j (.slice a n c)) (upd X j (X j ++ [x])) bt wt ∧ (∀ (k : Nat) (cc : Array Value), W.heap[k]? = some (.cells cc 26 (0, 0)) → (w1.setCell ⟨p, j, none⟩ (.slice a n c)).heap[k]? = some (.cells cc 26 (0, 0))) ∧ (∀ i, w1.cell? ⟨p, i, none⟩ = W.cell? ⟨p, i, none⟩) ∧ (∀ (k i : Nat) (cc : Array Value), W.heap[k]? = some (.cells cc 26 (0, 0)) → w1.cell? ⟨k, i, none⟩ = W.cell? ⟨k, i, none⟩) ∧ ∀ i, w1.frozen? ⟨p, i, none⟩ = false := by
  have hbase : W0.heap.size ≤ (W.alloc (.cells #[x] t' (0, 0))).heap.size := by have := h.below.size; simp; omega
  have hone : ∀ u ∈ [x], u.oneCell' = true := by intro u hu; simp at hu; subst hu; exact hx
  have hrow := (h.row j hj).alloc (.cells #[x] t' (0, 0))
  have key : ∃ v1 w1, (Builtin.append_ #[T, T] T #[V j, .slice (some ⟨W.heap.size, 0, none⟩) 1 1]).run Try.prog (W.alloc (.cells #[x] t' (0, 0))) = .ok v1 w1 ∧ w1.ownsRow W0.heap.size (tag j) 1 v1 ((X j).length + 1) (X j ++ [x]) ∧ (W.alloc (.cells #[x] t' (0, 0))).grownBy w1 (V j).ownBlock ∧ (v1.ownBlock = (V j).ownBlock ∨ v1.ownBlock = some (W.alloc (.cells #[x] t' (0, 0))).heap.size) := by
    rcases hT with ⟨rfl, rfl⟩ | ⟨rfl, rfl⟩ | ⟨rfl, h0, h2⟩
    · obtain ⟨i, hi, hz, hs, hb⟩ := info_parts info5
      obtain ⟨v1, w1, q1, q2, q3, q4, q5⟩ := run_append_own_at (P := Try.prog) _ W0.heap.size 24 24 5 i _ 1 1 Try.underlying24 hi hz hs hb rfl (by decide) (V 0) _ _ hrow ⟨W.heap.size, 0, none⟩ 1 1 [x] rfl (cell_one_new W x t') hone (by unfold maxLen; omega) (by omega) hbase
      exact ⟨v1, w1, q1, q2, q3, q5⟩
    · obtain ⟨i, hi, hz, hs, hb⟩ := info_parts info9
      obtain ⟨v1, w1, q1, q2, q3, q4, q5⟩ := run_append_own_at (P := Try.prog) _ W0.heap.size 30 30 9 i _ 1 16 Try.underlying30 hi hz hs hb rfl (by decide) (V 2) _ _ hrow ⟨W.heap.size, 0, none⟩ 1 1 [x] rfl (cell_one_new W x t') hone (by unfold maxLen; omega) (by omega) hbase
      exact ⟨v1, w1, q1, q2, q3, q5⟩
    · have ht : tag j = 3 := by unfold tag; rw [if_neg h0, if_neg h2]
      rw [ht] at hrow ⊢
      obtain ⟨i, hi, hz, hs, hb⟩ := info_parts info3
      obtain ⟨v1, w1, q1, q2, q3, q4, q5⟩ := run_append_own_at (P := Try.prog) _ W0.heap.size 29 29 3 i _ 1 8 Try.underlying29 hi hz hs hb rfl (by decide) (V j) _ _ hrow ⟨W.heap.size, 0, none⟩ 1 1 [x] rfl (cell_one_new W x t') hone (by unfold maxLen; omega) (by omega) hbase
      exact ⟨v1, w1, q1, q2, q3, q5⟩
  obtain ⟨v1, w1, q1, q2, q3, q5⟩ := key
  obtain ⟨a, c, hv⟩ : ∃ a c, v1 = .slice a ((X j).length + 1) c := by
    rcases q2.2 with ⟨h0, h1⟩ | ⟨g, cap, cur, h0, _⟩
    · exact absurd h1 (by omega)
    · exact ⟨_, _, h0⟩
  obtain ⟨r1, r2, r3, r4⟩ := h.app hj _ q2 q3 q5
  have hp1 : w1.heap[p]? = W.heap[p]? := (q3.block p (by have := heap_lt h.st; simp; omega) (fun e => h.ne hj e.symm)).trans (Below.heap_alloc W _ p (heap_lt h.st))
  subst hv
  refine ⟨_, _, _, w1, q1, r1, r2, r3, r4, fun i => World.cell?_of_block (w := W) hp1, fun k i cc hk => ?_, fun i => by simp [World.frozen?, hp1, h.st]⟩
  refine World.cell?_of_block (w := W) ((q3.block k (by have := heap_lt hk; simp; omega) (fun e => ?_)).trans (Below.heap_alloc W _ k (heap_lt hk)))
  obtain ⟨cur, h1⟩ := own_row (h.row j hj) e.symm
  rw [hk] at h1
  injection h1 with h1
  injection h1 with _ h1 _
  exact (tag_ne j).2 h1.symm

/-- the model's rows -/
def XS (K : List (Ky × Int)) (A : List Nat) (Z : List Int) : Nat → List Value
  | 0 => K.map fun e => .int .u8 e.1.1
  | 1 => K.map fun e => .int .i64 e.1.2.1
  | 2 => K.map fun e => .string e.1.2.2
  | 3 => K.map fun e => .int .i64 e.2
  | 4 => K.map fun e => .int .i64 (szk e.1)
  | 5 => A.map fun (a : Nat) => Value.int .i64 (a : Int)
  | 6 => Z.map fun z => .int .i64 z
  | _ => []

/-- what the law knows of a frame that it has cloned -/
structure TOk (f : Fr) : Prop where
  k0 : 0 ≤ f.k
  s : f.s.size ≤ 1048576
  v : ∃ va vl vc, f.v = .slice va vl vc ∧ vl ≤ 1048576

theorem ms_start (w : World) (Z : Obj) (hZ : Z = .cells #[.slice none 0 0, .slice none 0 0, .slice none 0 0, .slice none 0 0, .slice none 0 0, .slice none 0 0, .slice none 0 0, .int .i64 0, .int .i64 0] 32 (0, 0)) : Ms w (w.alloc Z) w.heap.size (fun _ => .slice none 0 0) (XS [] [] []) 0 0 := by
  refine ⟨?_, fun j hj => ?_, (fun i j _ _ _ g e => by cases e), Nat.le_refl _, (Below.refl _ _).alloc (Nat.le_refl _) _⟩
  · have h1 := Array.getElem?_push_size (xs := w.heap) (x := Z)
    exact h1.trans (by rw [hZ])
  · have : XS [] [] [] j = [] := by
      match j, hj with
      | 0, _ | 1, _ | 2, _ | 3, _ | 4, _ | 5, _ | 6, _ => rfl
    rw [this]
    exact ⟨rfl, .inl ⟨rfl, rfl⟩⟩

end Go.Proofs.Qxb6609323a
