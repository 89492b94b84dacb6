import Derived.Test.Qxb6612279aLawBnb
import Derived.Test.Qxb6612279aLawBns
import Derived.Test.Qxb6612279aLawBfb
import Derived.Test.Qxb6612279aLawBfs
namespace Go.Proofs.Qxb6612279a
open Go.RowKit
set_option linter.unusedVariables false

set_option maxRecDepth 100000 in
set_option maxHeartbeats 1000000 in
theorem law9_long (a0 a1 : Option Addr) (l0 c0 l1 c1 : Nat) (x : Bool) (w : World) (h0 : l0 ≤ maxLen) (h1 : l1 ≤ maxLen) (hlong : (524288 : Int) < (l0 : Int) ∨ (524288 : Int) < (l1 : Int)) :
    Calls Try.prog 9 #[.slice a0 l0 c0, .slice a1 l1 c1, .bool x] w fun e w' => e = .returned (.bool true) ∧ Below w.heap.size w w' := by
  have HB := hide (bytes27 a0 a1 l0 c0 l1 c1 x w h0 h1)
  unfold maxLen at h0 h1
  by_cases hl : (524288 : Int) < (l0 : Int)
  · have hd : decide ((524288 : Int) < (l0 : Int)) = true := decide_eq_true hl
    clear hlong hl
    go_enter Try.func9, Try.ntmps9
    go_wp2_with fail
    refine HB.out.mono ?_
    rintro e w' ⟨b, rfl, rfl⟩
    cases b
    all_goals
      go_wp2_with fail
      go_ret
      exact ⟨rfl, Below.refl _ _⟩
  · have hd0 : decide ((524288 : Int) < (l0 : Int)) = false := decide_eq_false hl
    have hd1 : decide ((524288 : Int) < (l1 : Int)) = true := decide_eq_true (hlong.resolve_left hl)
    clear hlong hl
    go_enter Try.func9, Try.ntmps9
    go_wp2_with fail
    refine HB.out.mono ?_
    rintro e w' ⟨b, rfl, rfl⟩
    cases b
    all_goals
      go_wp2_with fail
      go_ret
      exact ⟨rfl, Below.refl _ _⟩

end Go.Proofs.Qxb6612279a
