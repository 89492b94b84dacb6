import Derived.Test.Qxb6612279aSinkA
namespace Go.Proofs.Qxb6612279a
open Go.RowKit
set_option linter.unusedVariables false

set_option maxRecDepth 100000 in
set_option maxHeartbeats 4000000 in
theorem grow_nil_big (b n : Nat) (w : World) (h : Sk w b (.slice none 0 0)) (h64 : (64 : Int) < (n : Int)) (hlim : n ≤ 1073741824) :
    Calls Try.prog 61 #[.pointer (some ⟨b, 0, none⟩), .int .i64 n] w fun e w' => e = .returned (.int .i64 0) ∧ ∃ N cap2, w.heap.size ≤ N ∧ Sk w' b (.slice (some ⟨N, 0, none⟩) n cap2) ∧ n ≤ cap2 ∧ cap2 ≤ maxLen ∧ Rw w' N cap2 [] ∧ w.grownBy w' (some b) := by
  have hnil : ∀ W, (binOp .eql 22 (.slice none 0 0) (.slice none 0 0)).run Try.prog W = .ok (.bool true) W := fun W => Lib.run_eql_slice_nil_nil W _ _ Try.underlying22
  have HL := hide (fun W h => len62 b none 0 0 W h (by omega))
  have HT := hide (fun W h => tryGrow_none b none 0 0 n W h (Nat.le_refl _) (by unfold maxLen; omega) (by omega))
  have H := hide h
  clear h
  have hd : decide ((n : Int) ≤ 64) = false := decide_eq_false (by omega)
  go_enter Try.func61, Try.ntmps61
  go_wp2_with fail
  refine (HL.out _ H.out).mono ?_
  rintro e W0 ⟨rfl, k, hW0⟩
  have hS0 : Sk W0 b (.slice none 0 0) := H.out.of_block (by rw [hW0]; rfl)
  have c0 := hS0.c0
  have c1 := hS0.c1
  have f0 := hS0.fz 0
  have f1 := hS0.fz 1
  have HW0 := hide hW0
  have HS0 := hide hS0
  clear hW0 hS0
  go_wp2_with fail
  refine (HT.out _ HS0.out).mono ?_
  rintro e w' ⟨rfl, rfl⟩
  go_wp2_with fail
  have hwn : IntKind.i64.wrap (n : Int) = n := by rw [IntKind.wrap_i64]; omega
  have HGS := hide (fun W => growSlice_nil n W (by omega) (by omega))
  go_region_with (go_at_call 63; refine (HGS.out _).mono ?_; rintro e w2 ⟨cap2, cells, rfl, hN, hcsz, hcap2, hcm2, hbel⟩; have hS2 := HS0.out.of_block (hbel.block b HS0.out.lt); have d0 := hS2.c0; have d1 := hS2.c1; have e0 := hS2.fz 0; have e1 := hS2.fz 1; have HS2 := hide hS2; clear hS2)
  all_goals go_wp2
  all_goals go_ret
  all_goals
    obtain ⟨r1, r2, r3, r4⟩ := grow_fin (l := 0) (n := n) (cap2 := cap2) (bs := []) (v := .slice none 0 0) HW0.out HS2.out hN hcsz (by simp) (by omega) hbel
    rw [Nat.zero_add] at r2 r3 r4
    exact ⟨rfl, _, cap2, r1, r2, by omega, hcm2, r3, r4⟩

theorem small_fin {w w1 : World} {k b : Nat} {M : Array Value} (hW : w1 = w.drewN k) (hS : Sk w1 b (.slice none 0 0)) (hM : M.size = 64) (v : Value) :
    w.heap.size ≤ w1.heap.size ∧ Sk ((w1.setCell ⟨b, 0, none⟩ v).alloc (.cells M 5)) b v ∧ Rw ((w1.setCell ⟨b, 0, none⟩ v).alloc (.cells M 5)) w1.heap.size 64 [] ∧ w.grownBy ((w1.setCell ⟨b, 0, none⟩ v).alloc (.cells M 5)) (some b) := by
  have hsz : w1.heap.size = w.heap.size := by rw [hW]; rfl
  have hsz2 : (w1.setCell ⟨b, 0, none⟩ v).heap.size = w1.heap.size := by simp [World.setCell]
  have hg : w.grownBy w1 (some b) := by rw [hW]; exact ⟨rfl, rfl, rfl, Nat.le_refl _, fun _ _ _ => rfl⟩
  have hg2 := grownBy_set hg 0 v
  refine ⟨by omega, (hS.set0 v).of_block (Below.heap_alloc _ _ _ (by rw [hsz2]; exact hS.lt)), ⟨M, ?_, hM, by simp, by simp⟩, ⟨hg2.os, hg2.tape, hg2.output, ?_, fun i hi hne => ?_⟩⟩
  · rw [← hsz2]; exact Deep.blk_alloc_new _ _
  · have := hg2.size; simp; omega
  · rw [Below.heap_alloc _ _ _ (by rw [hsz2]; omega)]; exact hg2.block i hi hne

set_option maxRecDepth 100000 in
set_option maxHeartbeats 4000000 in
theorem grow_nil_small (b n : Nat) (w : World) (h : Sk w b (.slice none 0 0)) (hn : 1 ≤ n) (h64 : (n : Int) ≤ 64) :
    Calls Try.prog 61 #[.pointer (some ⟨b, 0, none⟩), .int .i64 n] w fun e w' => e = .returned (.int .i64 0) ∧ ∃ N cap2, w.heap.size ≤ N ∧ Sk w' b (.slice (some ⟨N, 0, none⟩) n cap2) ∧ n ≤ cap2 ∧ cap2 ≤ maxLen ∧ Rw w' N cap2 [] ∧ w.grownBy w' (some b) := by
  have hnil : ∀ W, (binOp .eql 22 (.slice none 0 0) (.slice none 0 0)).run Try.prog W = .ok (.bool true) W := fun W => Lib.run_eql_slice_nil_nil W _ _ Try.underlying22
  have HL := hide (fun W h => len62 b none 0 0 W h (by omega))
  have HT := hide (fun W h => tryGrow_none b none 0 0 n W h (Nat.le_refl _) (by unfold maxLen; omega) (by omega))
  have H := hide h
  clear h
  have hd : decide ((n : Int) ≤ 64) = true := decide_eq_true h64
  obtain ⟨M, hMs, hmk⟩ : ∃ M : Array Value, M.size = 64 ∧ ∀ W : World, (Instr.makeSlice 22 (.int .i64 (n : Int)) (.int .i64 64)).run Try.prog W = .ok (.slice (some ⟨W.heap.size, 0, none⟩) n 64) (W.alloc (.cells M 5)) := by
    obtain ⟨i0, hi, hz0, hz1, hz2⟩ := info_parts info5
    refine ⟨madeCells (Value.int .u8 0).cells ((64 : Int).toNat * i0.size), by rw [size_madeCells, hz1]; rfl, fun W => ?_⟩
    have h := run_make (P := Try.prog) W 22 5 i0 (.int .u8 0) Try.underlying22 hi hz0 .i64 .i64 (n : Int) 64 (by omega) (by omega) (by rw [hz2]; decide) (by decide)
    simpa using h
  go_enter Try.func61, Try.ntmps61
  go_wp2_with fail
  refine (HL.out _ H.out).mono ?_
  rintro e W0 ⟨rfl, k, hW0⟩
  have hS0 : Sk W0 b (.slice none 0 0) := H.out.of_block (by rw [hW0]; rfl)
  have hlt := hS0.lt
  have c0 := hS0.c0
  have c1 := hS0.c1
  have f0 := hS0.fz 0
  have f1 := hS0.fz 1
  have HS0 := hide hS0
  have c0a : ∀ o, (W0.alloc o).cell? ⟨b, 0, none⟩ = some (.slice none 0 0) := fun o => (World.cell?_of_block (a := ⟨b, 0, none⟩) (Below.heap_alloc W0 o b hlt)).trans c0
  have f0a : ∀ o, (W0.alloc o).frozen? ⟨b, 0, none⟩ = false := fun o => (World.frozen?_of_block (a := ⟨b, 0, none⟩) (Below.heap_alloc W0 o b hlt)).trans f0
  have HW0 := hide hW0
  clear hW0 hS0
  go_wp2_with fail
  refine (HT.out _ HS0.out).mono ?_
  rintro e w' ⟨rfl, rfl⟩
  go_wp2_with fail
  go_ret
  obtain ⟨r1, r2, r3, r4⟩ := small_fin HW0.out HS0.out hMs (.slice (some ⟨w'.heap.size, 0, none⟩) n 64)
  exact ⟨rfl, w'.heap.size, 64, r1, r2, by omega, by unfold maxLen; omega, r3, r4⟩

end Go.Proofs.Qxb6612279a
