import Derived.Test.Qxb6612279aItem
import Derived.Test.Qxb6612279aSinkD
import Derived.Laws.CopyRow
import Derived.BigRegion
import Derived.Lib.Walk
namespace Go.Proofs.Qxb6612279a
open Go.RowKit
set_option linter.unusedVariables false

/-- the ItemBuffer at block I -/
def IB (w : World) (I : Nat) (d buf : Value) (whole : Int) (err : Value) : Prop := w.heap[I]? = some (.cells #[d, buf, .int .i64 whole, err] 51 (0, 0))

section
variable {w w' : World} {I : Nat} {d buf err : Value} {whole : Int}
theorem IB.c0 (h : IB w I d buf whole err) : w.cell? ⟨I, 0, none⟩ = some d := by unfold IB at h; simp [World.cell?, h]
theorem IB.c1 (h : IB w I d buf whole err) : w.cell? ⟨I, 1, none⟩ = some buf := by unfold IB at h; simp [World.cell?, h]
theorem IB.c2 (h : IB w I d buf whole err) : w.cell? ⟨I, 2, none⟩ = some (.int .i64 whole) := by unfold IB at h; simp [World.cell?, h]
theorem IB.c3 (h : IB w I d buf whole err) : w.cell? ⟨I, 3, none⟩ = some err := by unfold IB at h; simp [World.cell?, h]
theorem IB.fz (h : IB w I d buf whole err) (i : Nat) : w.frozen? ⟨I, i, none⟩ = false := by unfold IB at h; simp [World.frozen?, h]
theorem IB.set1 (h : IB w I d buf whole err) (u : Value) : IB (w.setCell ⟨I, 1, none⟩ u) I d u whole err := by
  unfold IB at h ⊢
  rw [heap_setCell_same w I 1 _ _ u h]; rfl
theorem IB.set2 (h : IB w I d buf whole err) (u : Int) : IB (w.setCell ⟨I, 2, none⟩ (.int .i64 u)) I d buf u err := by
  unfold IB at h ⊢
  rw [heap_setCell_same w I 2 _ _ _ h]; rfl
theorem IB.set3 (h : IB w I d buf whole err) (u : Value) : IB (w.setCell ⟨I, 3, none⟩ u) I d buf whole u := by
  unfold IB at h ⊢
  rw [heap_setCell_same w I 3 _ _ u h]; rfl
theorem IB.of_block (h : IB w I d buf whole err) (e : w'.heap[I]? = w.heap[I]?) : IB w' I d buf whole err := e.trans h
end

theorem nil_neq_nil (w : World) : (binOp .neq 34 .nilIface .nilIface).run Try.prog w = .ok (.bool false) w := by kernel_rfl

/-- the row behind 'copy(buf, buf[n:])' -/
def slid (cur : Array Value) (n m : Nat) : Array Value := ((cur.toList.drop n).take m ++ cur.toList.drop m).toArray

theorem slid_size (cur : Array Value) (n m : Nat) (h : n + m ≤ cur.size) : (slid cur n m).size = cur.size := by
  unfold slid
  simp
  omega

theorem slid_take (cur : Array Value) (n m : Nat) (h : n + m ≤ cur.size) : (slid cur n m).toList.take m = (cur.toList.drop n).take m := by
  unfold slid
  have : ((cur.toList.drop n).take m).length = m := by simp; omega
  exact List.take_left' this

set_option maxRecDepth 100000 in
set_option maxHeartbeats 2000000 in
theorem wrote_nil (I R cap n m : Nat) (d err : Value) (k0 : Int) (cur : Array Value) (w : World) (hI : IB w I d (.slice (some ⟨R, 0, none⟩) (n + m) cap) k0 err)
    (hR : w.heap[R]? = some (.cells cur 5 (0, 0))) (hcs : cur.size = cap) (hL : n + m ≤ cap) (hcap : cap ≤ maxLen) (hIR : R ≠ I) (h1 : ∀ v ∈ (cur.toList.drop n).take m, v.oneCell' = true) :
    Calls Try.prog 41 #[.pointer (some ⟨I, 0, none⟩), .int .i64 n, .nilIface] w fun e w' => e = .returned (.tuple #[]) ∧
      IB w' I d (.slice (some ⟨R, 0, none⟩) m cap) (-1) err ∧ w'.heap[R]? = some (.cells (slid cur n m) 5 (0, 0)) ∧ Kept w w' (fun k => k = I ∨ k = R) := by
  have hnn := nil_neq_nil
  have c2 := hI.c2
  have f2 := hI.fz 2
  have hH2 := hI.set2 (-1)
  have hcap' := hcap
  unfold maxLen at hcap'
  obtain ⟨W1, hW1⟩ : ∃ W1, W1 = w.setCell ⟨I, 2, none⟩ (.int .i64 (-1)) := ⟨_, rfl⟩
  rw [← hW1] at hH2
  have hk1 : Kept w W1 (fun k => k = I) := by rw [hW1]; exact Kept.set I 2 _
  have hR1 : W1.heap[R]? = some (.cells cur 5 (0, 0)) := (hk1.block R (heap_lt hR) hIR).trans hR
  have hsz : (Try.prog.info? 5).map (·.size) = some 1 := by kernel_rfl
  -- the copy
  obtain ⟨W2, hcp, hR2, hI2, hk2⟩ : ∃ W2, (∀ ad, (0 < m → ad = some ⟨R, n, none⟩) → (Builtin.copy_ #[22, 22] 3 #[.slice (some ⟨R, 0, none⟩) (n + m) cap, .slice ad m (cap - n)]).run Try.prog W1.drew = .ok (.int .i64 (m : Int)) W2) ∧
      W2.heap[R]? = some (.cells (slid cur n m) 5 (0, 0)) ∧ IB W2 I d (.slice (some ⟨R, 0, none⟩) (n + m) cap) (-1) err ∧ Kept W1 W2 (fun k => k = R) := by
    by_cases hm : m = 0
    · subst hm
      refine ⟨W1.drew, fun ad _ => ?_, ?_, hH2, Kept.drewN W1 1 |>.trans (Kept.refl _ (fun _ => False)) (fun _ _ e => e.elim) (fun _ _ e => e.elim)⟩
      · have := run_copy_none (P := Try.prog) W1.drew 22 22 3 5 (some ⟨R, 0, none⟩) ad (n + 0) cap 0 (cap - n) Try.underlying22 hsz (by simp)
        rw [this]; rfl
      · have : slid cur n 0 = cur := by unfold slid; simp
        rw [this]; exact hR1
    · have hlen : ((cur.toList.drop n).take m).length = m := by simp; omega
      have h := run_copy_row (P := Try.prog) W1.drew 22 22 3 5 R 0 (n + m) cap ⟨R, n, none⟩ m (cap - n) cur 5 ((cur.toList.drop n).take m) Try.underlying22 hsz hR1 (by rw [hlen]; exact (Nat.min_eq_left (by omega)).symm)
        (fun j v hj => by
          rw [Addr.add_lit]
          have hj' : j < m := by have := (List.getElem?_eq_some_iff.1 hj).1; omega
          rw [List.getElem?_take, if_pos hj', List.getElem?_drop] at hj
          show (W1.cell? ⟨R, n + j, none⟩) = some v
          simp [World.cell?, hR1]
          simpa using hj)
        (by rw [hlen]; omega) h1
      rw [hlen] at h
      refine ⟨W1.drew.setRow R (slid cur n m), fun ad had => ?_, setRow_heap _ R cur _ 5 _ hR1, hH2.of_block (setRow_other _ _ _ _ (fun e => hIR e.symm)), (Kept.drewN W1 1).trans (Kept.setRow R _) (fun _ _ e => e.elim) (fun _ _ e => e)⟩
      rw [had (by omega), h]
      simp [goInt, slid]
  have d1 := hH2.c1
  have g1 := hH2.fz 1
  have q1 := hI2.c1
  have z1 := hI2.fz 1
  have hm' : (m : Int) ≤ (cap : Int) := by omega
  have hn' : (n : Int) ≤ ((n + m : Nat) : Int) := by omega
  have HI2 := hide hI2
  have HR2 := hide hR2
  have HC := hide hcp
  have HW1 := hide hW1
  clear hI hH2 hI2 hR2 hcp hR1 hR hW1
  have fin : ∀ u, (W2.setCell ⟨I, 1, none⟩ u).heap[R]? = some (.cells (slid cur n m) 5 (0, 0)) ∧ Kept w (W2.setCell ⟨I, 1, none⟩ u) (fun k => k = I ∨ k = R) := fun u =>
    ⟨(heap_setCell_other _ _ _ _ (by exact hIR)).trans HR2.out, (hk1.trans hk2 (may := fun k => k = I ∨ k = R) (fun _ _ e => .inl e) (fun _ _ e => .inr e)).trans (Kept.set I 1 u) (fun _ _ e => e) (fun _ _ e => .inl e)⟩
  have FIN := hide fin
  clear fin hk1 hk2
  by_cases hcn : cap = n
  · have hm0 : m = 0 := by omega
    have hcp := HC.out (some ⟨R, 0, none⟩) (fun h => by omega)
    subst hm0 hcn
    simp only [Nat.add_zero, Nat.sub_self] at hcp d1 q1
    go_enter Try.func41, Try.ntmps41
    go_wp2_with fail
    rw [← HW1.out]
    go_region
    all_goals (go_wp2_with fail; go_end0; exact ⟨rfl, HI2.out.set1 _, (FIN.out _).1, (FIN.out _).2⟩)
  · have hcp := HC.out (some ⟨R, n, none⟩) (fun _ => rfl)
    go_enter Try.func41, Try.ntmps41
    go_wp2_with fail
    rw [← HW1.out]
    go_region
    all_goals (go_wp2_with fail; go_end0; exact ⟨rfl, HI2.out.set1 _, (FIN.out _).1, (FIN.out _).2⟩)

end Go.Proofs.Qxb6612279a
