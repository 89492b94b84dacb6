import Derived.Test.Qxb6613843aLeaf
import Derived.BigRegion
import Derived.Deep.LoopGhost
namespace Go.Proofs.Qxb6613843a
open Go.RowKit
set_option linter.unusedVariables false

theorem info34 : (Try.prog.info? 34).map (fun i => (i.zero, i.size, i.bytes)) = some (some (.agg #[.int .i32 0, .int .i32 0, .int .u16 0, .bool false]), 4, 12) := by kernel_rfl

/-- 'make([]T, n)' for elements of four cells: an equation for every world -/
theorem make34 (n : Nat) (hn : n ≤ 1024) (w : World) :
    (Instr.makeSlice 31 (.int .i64 (n : Int)) (.int .i64 (n : Int))).run Try.prog w = .ok (.slice (some ⟨w.heap.size, 0, none⟩) n n) (w.alloc (.cells (madeCells #[.int .i32 0, .int .i32 0, .int .u16 0, .bool false] (n * 4)) 34)) := by
  obtain ⟨i, hi, hz0, hz1, hz2⟩ := info_parts info34
  have hr := run_make (P := Try.prog) w 31 34 i _ Try.underlying31 hi hz0 .i64 .i64 n n (by omega) (by omega) (by rw [hz2]; omega) (by omega)
  rw [hz1] at hr
  simpa [Value.cells] using hr

theorem made34 (w : World) (n : Nat) : (w.alloc (.cells (madeCells #[.int .i32 0, .int .i32 0, .int .u16 0, .bool false] (n * 4)) 34)).rowIs w.heap.size 34 (n * 4) (fun i => #[Value.int .i32 0, .int .i32 0, .int .u16 0, .bool false].getD (i % 4) (.bool false)) := by
  refine ⟨_, Deep.blk_alloc_new _ _, size_madeCells _ _, fun i hi => ?_⟩
  have : i % 4 < 4 := Nat.mod_lt _ (by omega)
  simp [madeCells, hi, Array.getD, this]

set_option maxHeartbeats 400000 in
theorem new_any (b0 b1 b2 b3 len : Nat) (f0 f1 f2 : Nat → Int) (f3 : Nat → Bool) (first n : Int) (w : World) (hl : len ≤ 1024)
    (l0 : b0 < w.heap.size) (l1 : b1 < w.heap.size) (l2 : b2 < w.heap.size) (l3 : b3 < w.heap.size)
    (h0 : ∀ j, j < len → w.cell? ⟨b0, j, none⟩ = some (.int .i32 (f0 j))) (h1 : ∀ j, j < len → w.cell? ⟨b1, j, none⟩ = some (.int .i32 (f1 j)))
    (h2 : ∀ j, j < len → w.cell? ⟨b2, j, none⟩ = some (.int .u16 (f2 j))) (h3 : ∀ j, j < len → w.cell? ⟨b3, j, none⟩ = some (.bool (f3 j))) :
    Calls Try.prog 6 #[.slice (some ⟨b0, 0, none⟩) len len, .slice (some ⟨b1, 0, none⟩) len len, .slice (some ⟨b2, 0, none⟩) len len, .slice (some ⟨b3, 0, none⟩) len len, .int .i64 first, .int .i64 n] w
      fun e w' => ∃ H, e = .returned (.pointer (some ⟨H, 0, none⟩)) ∧ w.heap.size ≤ H ∧ H < w'.heap.size ∧
        w'.cell? ⟨H, 3, none⟩ = some (.slice (some ⟨w.heap.size, 0, none⟩) len len) ∧ w'.cell? ⟨H, 4, none⟩ = some (.int .i64 first) ∧ Below w.heap.size w w' ∧ (∃ cs, w'.heap[w.heap.size]? = some (.cells cs 34 (0, 0))) := by
  have hmk := make34 len hl
  have H0 := hide h0
  have H1 := hide h1
  have H2 := hide h2
  have H3 := hide h3
  clear h0 h1 h2 h3
  go_enter Try.func6, Try.ntmps6
  go_wp2
  go_loopw [14] (fun i wr => ∃ k : Nat, k ≤ len ∧ i = .int .i64 k ∧ (∃ f, wr.rowIs w.heap.size 34 (len * 4) f) ∧ Below w.heap.size w wr) (fun i _ => len - (intOf i).toNat)
  case atStart => exact ⟨0, Nat.zero_le _, rfl, ⟨_, made34 w len⟩, (Below.refl _ _).alloc (Nat.le_refl _) _⟩
  case round =>
    obtain ⟨k, hk, rfl, ⟨f, hrow⟩, hb⟩ := hrel
    by_cases hlt : k < len
    · have hlt' : (k : Int) < (len : Int) := by omega
      have g0 : wr.cell? ⟨b0, k, none⟩ = some (.int .i32 (f0 k)) := (hb.cell (p := ⟨b0, k, none⟩) l0).trans (H0.out k hlt)
      have g1 : wr.cell? ⟨b1, k, none⟩ = some (.int .i32 (f1 k)) := (hb.cell (p := ⟨b1, k, none⟩) l1).trans (H1.out k hlt)
      have g2 : wr.cell? ⟨b2, k, none⟩ = some (.int .u16 (f2 k)) := (hb.cell (p := ⟨b2, k, none⟩) l2).trans (H2.out k hlt)
      have g3 : wr.cell? ⟨b3, k, none⟩ = some (.bool (f3 k)) := (hb.cell (p := ⟨b3, k, none⟩) l3).trans (H3.out k hlt)
      have e0 : wr.cell? ⟨w.heap.size, k * 4, none⟩ = some (f (k * 4)) := hrow.cell (by omega)
      have e1 : wr.cell? ⟨w.heap.size, k * 4 + 1, none⟩ = some (f (k * 4 + 1)) := hrow.cell (by omega)
      have e2 : wr.cell? ⟨w.heap.size, k * 4 + 2, none⟩ = some (f (k * 4 + 2)) := hrow.cell (by omega)
      have e3 : wr.cell? ⟨w.heap.size, k * 4 + 3, none⟩ = some (f (k * 4 + 3)) := hrow.cell (by omega)
      have z0 : ∀ i, wr.frozen? ⟨w.heap.size, i, none⟩ = false := fun i => hrow.frozen i
      go_wp2
      go_region
      all_goals go_wp2
      all_goals
        go_roundw
        case rel => exact ⟨k + 1, by omega, by go_num, ⟨_, ((((hrow.set _ _).set _ _).set _ _).set _ _).drew⟩, ((((hb.setCell (Nat.le_refl _) _).setCell (Nat.le_refl _) _).setCell (Nat.le_refl _) _).setCell (Nat.le_refl _) _).drew⟩
        case measure => simp [intOf]; omega
    · go_wp2
      go_ret
      have hs := hb.size
      obtain ⟨cs, hcs, _, _⟩ := hrow.alloc (.cells #[Value.slice none 0 0, Value.int .i64 0, Value.int .i64 0, Value.slice (some ⟨w.heap.size, 0, none⟩) len len, Value.int .i64 first, Value.int .i64 n] 37)
      exact ⟨_, rfl, hs, by simp, by simp, by simp, hb.alloc hs _, cs, hcs⟩

end Go.Proofs.Qxb6613843a
