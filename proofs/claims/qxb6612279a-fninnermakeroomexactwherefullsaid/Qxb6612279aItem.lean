import Derived.Test.Qxb6612279aLeaf
namespace Go.Proofs.Qxb6612279a
open Go.RowKit
set_option linter.unusedVariables false

/-- the destination: the sink behind plainWriter -/
def dstV (b : Nat) : Value := .iface 67 (.agg #[.iface 29 (.pointer (some ⟨b, 0, none⟩))])

/-- the row of 66560 noughts that NewItemBuffer makes -/
def bigCells : Array Value := madeCells #[.int .u8 0] 66560

theorem make_big (w : World) : (Instr.makeSlice 22 (.int .i64 0) (.int .i64 66560)).run Try.prog w = .ok (.slice (some ⟨w.heap.size, 0, none⟩) 0 66560) (w.alloc (.cells bigCells 5)) := by
  obtain ⟨i0, hi, hz0, hz1, hz2⟩ := info_parts info5
  have h := run_make (P := Try.prog) w 22 5 i0 (.int .u8 0) Try.underlying22 hi hz0 .i64 .i64 0 66560 (by omega) (by omega) (by rw [hz2]; decide) (by decide)
  rw [hz1] at h
  exact h

theorem missing_some (want : Array (String × TypeId)) (got : Array Method) (x : String)
    (h : (want.toList.filter fun (name, sig) => !got.any fun m => m.name == name && m.sig == sig).map (·.1) = [x]) : ∃ m, Instr.missingMethod want got = some m := by
  unfold Instr.missingMethod
  simp only [h]
  cases hc : x.contains '.' <;> simp [List.partition, List.partition.loop, hc, Instr.least]

theorem item_want : ∃ want i, Try.prog.underlying 49 = some (.interface want) ∧ Try.prog.info? 29 = some i ∧ (want.toList.filter fun (name, sig) => !i.methods.any fun m => m.name == name && m.sig == sig).map (·.1) = ["WritePart"] := by
  refine ⟨_, _, Try.underlying49, rfl, ?_⟩
  kernel_rfl

theorem not_item (b : Nat) (w : World) : (Instr.typeAssert (.iface 29 (.pointer (some ⟨b, 0, none⟩))) 64 49 true).run Try.prog w = .ok (.tuple #[.nilIface, .bool false]) w := by
  obtain ⟨want, i, h1, h2, h3⟩ := item_want
  obtain ⟨m, hm⟩ := missing_some want i.methods _ h3
  have hz : ∀ w, (zeroValue 49).run Try.prog w = .ok .nilIface w := fun w => by kernel_rfl
  simp [Instr.typeAssert, run_underlying h1, typeInfo, h2, hm, hz]

theorem at_new (W : World) (o : Obj) (n : Nat) (h : n = W.heap.size) : (W.alloc o).heap[n]? = some o := by rw [h]; exact Deep.blk_alloc_new _ _

theorem big_size : bigCells.size = 66560 := size_madeCells _ _

set_option maxRecDepth 100000 in
set_option maxHeartbeats 1000000 in
theorem newItem (b : Nat) (w : World) :
    Calls Try.prog 38 #[.iface 29 (.pointer (some ⟨b, 0, none⟩))] w fun e w' => e = .returned (.agg #[dstV b, .slice (some ⟨w.heap.size + 1, 0, none⟩) 0 66560, .int .i64 (-1), .nilIface]) ∧
      w'.heap[w.heap.size + 1]? = some (.cells bigCells 5 (0, 0)) ∧ w'.heap.size = w.heap.size + 2 ∧ Below w.heap.size w w' := by
  have hmk := make_big
  have hta := not_item
  go_enter Try.func38, Try.ntmps38
  go_wp2_with fail
  refine bodyPost_ret (v := .agg #[dstV b, .slice (some ⟨w.heap.size + 1, 0, none⟩) 0 66560, .int .i64 (-1), .nilIface]) (by simp [results, Try.results38, go_sem, dstV]) rfl ⟨rfl, ?_, by simp, ((Below.refl _ _).alloc (Nat.le_refl _) _).alloc (by simp) _⟩
  exact at_new _ _ _ (by simp)

set_option maxRecDepth 100000 in
set_option maxHeartbeats 1000000 in
theorem zzNew (w : World) :
    Calls Try.prog 32 #[] w fun e w' => ∃ I b R, e = .returned (.tuple #[.pointer (some ⟨I, 0, none⟩), .pointer (some ⟨b, 0, none⟩)]) ∧ w.heap.size ≤ I ∧ w.heap.size ≤ b ∧ w.heap.size ≤ R ∧
      w'.heap[b]? = some (.cells #[.slice none 0 0, .int .i64 0, .int .i8 0] 57 (0, 0)) ∧ w'.heap[R]? = some (.cells bigCells 5 (0, 0)) ∧
      w'.heap[I]? = some (.cells #[dstV b, .slice (some ⟨R, 0, none⟩) 0 66560, .int .i64 (-1), .nilIface] 51 (0, 0)) ∧ Below w.heap.size w w' := by
  have HN := hide (fun W => newItem w.heap.size W)
  go_enter Try.func32, Try.ntmps32
  go_wp2_with fail
  refine (HN.out _).mono ?_
  rintro e w1 ⟨rfl, h1, h2, h3⟩
  simp only [World.size_alloc] at h1 h2
  unfold dstV
  go_wp2_with fail
  go_ret2
  have hb : Below w.heap.size w w1 := ((Below.refl _ _).alloc (Nat.le_refl _) _).trans (h3.mono (by simp))
  refine ⟨_, _, _, rfl, by omega, Nat.le_refl _, by omega, ?_, ?_, at_new _ _ _ (by omega), hb.alloc (by omega) _⟩
  · rw [Below.heap_alloc _ _ _ (by omega), h3.block _ (by simp)]
    exact Deep.blk_alloc_new _ _
  · rw [Below.heap_alloc _ _ _ (by omega)]
    exact h1

end Go.Proofs.Qxb6612279a
