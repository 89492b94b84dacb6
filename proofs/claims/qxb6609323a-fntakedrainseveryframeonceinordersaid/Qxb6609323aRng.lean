import Derived.Test.Qxb6609323aSum
import Derived.Maps.RangeWalk
namespace Go.Proofs.Qxb6609323a
open Go.RowKit Go.Maps Go.WideElems
open Go.ChangeMaps (setBlock modify_eq_set)
set_option linter.unusedVariables false

/-- an iterator over the map at b lies at r -/
structure Rg (w : World) (b r : Nat) (L : List En) (since : Nat) (seen : Array Nat) : Prop where
  it : ∃ c0, w.heap[r]? = some (.mapIter (some b) since seen c0) ∧ since ≤ c0
  old : ∀ e ∈ L, e.born < since

theorem Rg.same {w w' : World} {b r since : Nat} {L : List En} {seen : Array Nat} (h : Rg w b r L since seen) (hr : w'.heap[r]? = w.heap[r]?) : Rg w' b r L since seen := by
  obtain ⟨c0, h1, h2⟩ := h.it
  exact ⟨⟨c0, hr.trans h1, h2⟩, h.old⟩

theorem Mp.range {w : World} {b clk : Nat} {L : List En} (h : Mp w b L clk) : ∃ o, (Instr.range 45 (.map (some b))).run Try.prog w = .ok (.pointer (some ⟨w.heap.size, 0, none⟩)) (w.alloc o) ∧ Rg (w.alloc o) b w.heap.size L clk #[] := by
  refine ⟨_, run_range_map w 45 61 3 b _ clk Try.underlying45 h.blk, ⟨⟨clk, (MapKept.heap_alloc w _).1, Nat.le_refl _⟩, h.born⟩⟩

theorem wpList_next_mp {w : World} {ops : Array Oper} {rest : List Oper} {o : Oper} {a : Act} {Q : Exit → Act → World → Prop} (hg : o.guard = none) (it : Operand) (hop : o.op = Op.next it false) (b r clk : Nat) (seen : Array Nat) (L : List En)
    (hit : a.eval it = .pointer (some ⟨r, 0, none⟩)) (hM : Mp w b L clk) (hR : Rg w b r L clk seen)
    (hDone : un L seen = 0 → wpList Try.prog ops Q rest (a.put o.dst (.tuple #[.bool false])) w)
    (hMore : ∀ (e : En) (w' : World), e ∈ L → seen.contains e.born = false → Rg w' b r L clk (seen.push e.born) → Mp w' b L clk → Keep (fun k => k = r) w w' → w'.heap.size = w.heap.size →
      (Instr.entry (.pointer (some ⟨r, 0, none⟩))).run Try.prog w' = .ok (.tuple #[.agg #[.int .u8 e.k, .int .i64 e.o, .string e.s], .int .i64 e.c]) w' → wpList Try.prog ops Q rest (a.put o.dst (.tuple #[.bool true, .agg #[.int .u8 e.k, .int .i64 e.o, .string e.s], .int .i64 e.c])) w') :
    wpList Try.prog ops Q (o :: rest) a w := by
  refine wpList_plain hg fun K' hK' => ?_
  unfold Oper.wp
  obtain ⟨c0, hr, hsc⟩ := hR.it
  have hold : ∀ x ∈ (L.map En.ent).toArray.toList, x.born < clk := by
    intro x hx
    obtain ⟨e, he, rfl⟩ := List.mem_map.1 hx
    exact hR.old e he
  rcases run_next_at (P := Try.prog) w o.type r b clk c0 seen _ clk hr hM.blk hold hsc with ⟨h0, hrun⟩ | ⟨x, hx, w1, hal, hrun⟩
  · rw [left_un] at h0
    simp [execOp, hop, hit, hrun, Result.andThen]
    exact hK' _ _ (hDone h0)
  · obtain ⟨hem, hes⟩ := mem_left hx
    obtain ⟨e, he, rfl⟩ := List.mem_map.1 hem
    have hrb : r ≠ b := by
      intro e
      have h1 := hM.blk
      rw [← e, hr] at h1
      cases h1
    have hr1 : w1.heap[r]? = some (.mapIter (some b) clk seen c0) := by rcases hal with rfl | rfl <;> exact hr
    have hk1 : Keep (fun k => k = r) w w1 := by rcases hal with rfl | rfl <;> exact ⟨rfl, rfl, rfl, Nat.le_refl _, fun _ _ _ => rfl⟩
    have hs1 : w1.heap.size = w.heap.size := by rcases hal with rfl | rfl <;> rfl
    have hb1 : w1.heap[b]? = w.heap[b]? := by rcases hal with rfl | rfl <;> rfl
    have hR' : (setBlock w1 r (.mapIter (some b) clk (seen.push e.born) clk)).heap[r]? = _ := set_same hr1
    have hM' : Mp (setBlock w1 r (.mapIter (some b) clk (seen.push e.born) clk)) b L clk := hM.same ((set_other (Ne.symm hrb)).trans hb1)
    have hborn : ((L.map En.ent).toArray.toList.map (·.born)).Nodup := by
      have := hM.db
      show ((L.map En.ent).map (·.born)).Nodup
      rw [List.map_map]
      exact this
    have hent := run_entry_at (P := Try.prog) _ r b clk seen _ clk e.ent hR' hM'.blk hem hborn
    simp [execOp, hop, hit, hrun, Result.andThen]
    refine hK' _ _ (hMore e _ he hes ⟨⟨clk, hR', Nat.le_refl _⟩, hR.old⟩ hM' (hk1.trans (Y := fun k => k = r) ⟨rfl, rfl, rfl, by rw [set_size]; exact Nat.le_refl _, fun k _ hk => set_other hk⟩ (fun _ _ h => h)) (by rw [set_size]; exact hs1) hent)

end Go.Proofs.Qxb6609323a
