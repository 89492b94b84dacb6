import Derived.Test.Qxb6613843aNew
import Derived.Deep.DeepCutAuto
import Derived.Laws.CopyOwn
namespace Go.Proofs.Qxb6613843a
open Go.RowKit
set_option linter.unusedVariables false

/-- what the walk is told of a slice that came in: nil, or it leads to 'cap' cells of which the first 'len' hold 'F 0', 'F 1', .. -/
def Src (w : World) (a : Option Addr) (len cap : Nat) (F : Nat → Value) : Prop :=
  (∀ i, (F i).oneCell' = true) ∧ ((a = none ∧ len = 0 ∧ cap = 0) ∨ ∃ x, a = some x ∧ len ≤ cap ∧ cap ≤ maxLen ∧ ∀ i, i < len → w.cell? (x.add i) = some (F i))

theorem Src.le {w : World} {a : Option Addr} {len cap : Nat} {F : Nat → Value} (h : Src w a len cap F) : len ≤ maxLen := by
  obtain ⟨_, ⟨_, rfl, _⟩ | ⟨_, _, h1, h2, _⟩⟩ := h
  · exact Nat.zero_le _
  · omega

/-- a copy of it, made by the call -/
def Cp (B : Nat) (wx : World) (v : Value) (len : Nat) (F : Nat → Value) : Prop :=
  ∃ a c, v = .slice a len c ∧ (0 < len → ∃ g, a = some ⟨g, 0, none⟩ ∧ c = len ∧ B ≤ g ∧ g < wx.heap.size ∧ ∀ j, j < len → wx.cell? ⟨g, j, none⟩ = some (F j))

theorem Cp.later {B : Nat} {wx wy : World} {v : Value} {len : Nat} {F : Nat → Value} (h : Cp B wx v len F) (hb : Below wx.heap.size wx wy) : Cp B wy v len F := by
  obtain ⟨a, c, rfl, hc⟩ := h
  refine ⟨a, c, rfl, fun hl => ?_⟩
  obtain ⟨g, rfl, rfl, h1, h2, h3⟩ := hc hl
  exact ⟨g, rfl, rfl, h1, Nat.lt_of_lt_of_le h2 hb.size, fun j hj => (hb.cell (p := ⟨g, j, none⟩) h2).trans (h3 j hj)⟩

set_option maxHeartbeats 400000 in
theorem bytes_some (a0 a1 a2 a3 : Option Addr) (l0 c0 l1 c1 l2 c2 l3 c3 : Nat) (x y : Int) (w : World)
    (h0 : l0 ≤ maxLen) (h1 : l1 ≤ maxLen) (h2 : l2 ≤ maxLen) (h3 : l3 ≤ maxLen) :
    Calls Try.prog 10 #[.slice a0 l0 c0, .slice a1 l1 c1, .slice a2 l2 c2, .slice a3 l3 c3, .int .i64 x, .int .i64 y] w
      fun e w' => ∃ b, e = .returned (.bool b) ∧ w' = w := by
  unfold maxLen at h0 h1 h2 h3
  go_enter Try.func10, Try.ntmps10
  go_wp2
  all_goals (go_ret; exact ⟨_, rfl, rfl⟩)

set_option maxHeartbeats 400000 in
theorem walk_long (a0 a1 a2 a3 : Option Addr) (l0 c0 l1 c1 l2 c2 l3 c3 : Nat) (x y : Int) (w : World)
    (h0 : l0 ≤ maxLen) (h1 : l1 ≤ maxLen) (h2 : l2 ≤ maxLen) (h3 : l3 ≤ maxLen) (hlong : 1024 < l0 ∨ 1024 < l1 ∨ 1024 < l2 ∨ 1024 < l3) :
    Calls Try.prog 4 #[.slice a0 l0 c0, .slice a1 l1 c1, .slice a2 l2 c2, .slice a3 l3 c3, .int .i64 x, .int .i64 y] w
      fun e w' => e = .returned (.bool true) ∧ Below w.heap.size w w' := by
  have hb := bytes_some a0 a1 a2 a3 l0 c0 l1 c1 l2 c2 l3 c3 x y w h0 h1 h2 h3
  have HB := hide hb
  clear hb
  unfold maxLen at h0 h1 h2 h3
  go_enter Try.func4, Try.ntmps4
  go_wp2_with fail
  refine HB.out.mono ?_
  rintro e w' ⟨b, rfl, rfl⟩
  cases b
  · go_wp2_with fail
    go_ret
    exact ⟨rfl, Below.refl _ _⟩
  · rcases hlong with h | h | h | h
    all_goals
      go_wp2_with fail
      all_goals (go_ret; exact ⟨rfl, Below.refl _ _⟩)

end Go.Proofs.Qxb6613843a
