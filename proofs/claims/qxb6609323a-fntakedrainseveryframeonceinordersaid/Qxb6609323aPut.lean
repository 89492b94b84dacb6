import Derived.Test.Qxb6609323aBatch
import Derived.Maps.Own
import Derived.Deep.DeepCutAuto
namespace Go.Proofs.Qxb6609323a
open Go.RowKit Go.Maps Go.WideElems
open Go.ChangeMaps (setBlock modify_eq_set)
set_option linter.unusedVariables false

theorem cnt_touch (L : List En) (k o : Int) (s : ByteArray) (clk : Nat) : cnt (touch L k o s clk) k o s = cnt L k o s := by
  unfold touch
  cases h : L.any (En.is k o s)
  · have hn : L.find? (En.is k o s) = none := by
      rw [List.find?_eq_none]
      intro x hx
      rw [List.any_eq_false] at h
      exact h x hx
    unfold cnt
    simp [List.find?_append, hn, En.is]
  · rfl

theorem below_set {B : Nat} (w : World) {b : Nat} (o : Obj) (hb : B ≤ b) : Below B w (setBlock w b o) := by
  refine ⟨rfl, rfl, rfl, ?_, fun k hk => set_other (by omega)⟩
  rw [set_size]
  exact Nat.le_refl _

/-- what addBare makes of the entries -/
def bump (L : List En) (k o : Int) (s : ByteArray) (v : Int) (clk : Nat) : List En := setTo (touch L k o s clk) k o s v

/-- the four operations of `m[k] += d` -/
structure Puts (w W1 W2 : World) (b clk1 st : Nat) (L : List En) (k o : Int) (s : ByteArray) (v : Int) (clk : Nat) : Prop where
  look : (Instr.lookup 45 (.map (some b)) (.agg #[.int .u8 k, .int .i64 o, .string s]) false).run Try.prog w = .ok (.int .i64 (cnt L k o s)) w
  look1 : (Instr.lookup 45 (.map (some b)) (.agg #[.int .u8 k, .int .i64 o, .string s]) false).run Try.prog W1 = .ok (.int .i64 (cnt L k o s)) W1
  ent : (Instr.mapEntry 45 (.map (some b)) (.agg #[.int .u8 k, .int .i64 o, .string s])).run Try.prog w = .ok (.tuple #[.int .i64 (cnt L k o s), .int .i64 (st : Int)]) W1
  sto : (Instr.entryStore 45 (.map (some b)) (.int .i64 (st : Int)) (.int .i64 v)).run Try.prog W1 = .ok () W2
  mp : Mp W2 b (bump L k o s v clk) clk1
  o1 : ∀ j, j ≠ b → W1.heap[j]? = w.heap[j]?
  o2 : ∀ j, j ≠ b → W2.heap[j]? = w.heap[j]?
  sz : W2.heap.size = w.heap.size
  bel : ∀ B, B ≤ b → Below B w W2
  same : L.any (En.is k o s) = true → clk1 = clk

theorem Mp.puts {w : World} {b clk : Nat} {L : List En} (h : Mp w b L clk) {k o : Int} {s : ByteArray} (hk : KOk k o s) (v : Int) : ∃ W1 W2 clk1 st, Puts w W1 W2 b clk1 st L k o s v clk := by
  obtain ⟨clk1, st, hent, hM1, hcl, hcl2, e1, he1, hk1, rfl⟩ := h.entry hk
  have hlook1 := hM1.look hk
  rw [cnt_touch] at hlook1
  refine ⟨_, _, clk1, e1.born, h.look hk, hlook1, hent, hM1.store he1 hk1 v, hM1.setTo k o s v, fun j hj => set_other hj, fun j hj => (set_other hj).trans (set_other hj), ?_, fun B hB => (below_set _ _ hB).trans (below_set _ _ hB), hcl2⟩
  rw [set_size, set_size]

end Go.Proofs.Qxb6609323a
