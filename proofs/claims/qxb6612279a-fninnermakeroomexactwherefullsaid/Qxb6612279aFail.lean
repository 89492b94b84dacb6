import Derived.Test.Qxb6612279aStart
namespace Go.Proofs.Qxb6612279a
open Go.RowKit
set_option linter.unusedVariables false

theorem Mid.set3 {base : Nat} {w : World} {I b : Nat} {bs hd : List Int} {k : Int} {err old v : Value} (h : Mid base w I b bs hd k err old v) (u : Value) : Mid base (w.setCell ⟨I, 3, none⟩ u) I b bs hd k u old v := by
  obtain ⟨R, cap, G, rfl, hS, hr, r⟩ := h
  have hRI := hr.ne_ib hS.ib
  exact ⟨R, cap, G, rfl, hS.set3 u, hr.of_block (heap_setCell_other _ _ _ _ (by exact hRI)), r⟩

set_option maxRecDepth 100000 in
set_option maxHeartbeats 1000000 in
theorem fail26 (base I b : Nat) (bs hd : List Int) (k : Int) (v : Value) (w : World) (h : Mid base w I b bs hd k .nilIface v v) :
    Calls Try.prog 26 #[.pointer (some ⟨I, 0, none⟩)] w fun e w' => e = .returned (.tuple #[]) ∧ (∃ E, Mid base w' I b bs hd k (.iface 60 (.pointer (some ⟨E, 0, none⟩))) v v) ∧ Below base w w' := by
  have h5 := mid_lt h
  have hla : ∀ o, Mid base (w.alloc o) I b bs hd k .nilIface v v := fun o => h.later ((Below.refl _ _).alloc (Nat.le_refl _) o)
  have HLA := hide hla
  have c3 : ∀ o, (w.alloc o).cell? ⟨I, 3, none⟩ = some .nilIface := fun o => by obtain ⟨_, _, _, _, m, _⟩ := hla o; exact m.ib.c3
  have f3 : ∀ o, (w.alloc o).frozen? ⟨I, 3, none⟩ = false := fun o => by obtain ⟨_, _, _, _, m, _⟩ := hla o; exact m.ib.fz 3
  have hI : base ≤ I := by obtain ⟨_, _, _, _, _, _, _, _, h1, _⟩ := h; exact h1
  have hnn := nil_eql_nil
  clear h hla
  go_enter Try.func26, Try.ntmps26
  go_wp2
  go_end0
  exact ⟨rfl, ⟨_, (HLA.out _).set3 _⟩, ((Below.refl _ _).alloc h5 _).setCell hI _⟩

end Go.Proofs.Qxb6612279a
