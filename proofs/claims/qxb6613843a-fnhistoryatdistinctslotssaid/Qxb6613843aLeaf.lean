import Derived.Test.Qxb6613843aRows
import Derived.WalkKit
import Derived.WalkSpells
import Derived.WalkLawsBesides
import Derived.Deep.QuietTactic
import Derived.Deep.OwnRows
import Derived.BigQuiet
namespace Go.Proofs.Qxb6613843a
open Go.RowKit
set_option linter.unusedVariables false

theorem hide {p : Prop} (h : p) : Hid p := h

/-- the slot of the ring at which 'i' lands -/
def slotOf (i n : Int) : Int := if n ≤ i then i - n else i

set_option maxHeartbeats 400000 in
theorem wrap_any (i n : Int) (w : World) (h0 : 0 ≤ i) (h1 : i ≤ 1000000) (h2 : 0 ≤ n) (h3 : n ≤ 1000000) :
    Calls Try.prog 12 #[.int .i64 i, .int .i64 n] w fun e w' => e = .returned (.int .i64 (slotOf i n)) ∧ w' = w := by
  unfold slotOf
  by_cases h : n ≤ i
  · rw [if_pos h]
    go_enter Try.func12, Try.ntmps12
    go_wp2
    go_ret
    exact ⟨rfl, rfl⟩
  · rw [if_neg h]
    go_enter Try.func12, Try.ntmps12
    go_wp2
    go_ret
    exact ⟨rfl, rfl⟩

set_option maxHeartbeats 400000 in
theorem bytes_any (a0 a1 a2 a3 : Option Addr) (l0 c0 l1 c1 l2 c2 l3 c3 : Nat) (x y : Int) (w : World)
    (h0 : l0 ≤ 1024) (h1 : l1 ≤ 1024) (h2 : l2 ≤ 1024) (h3 : l3 ≤ 1024) :
    Calls Try.prog 10 #[.slice a0 l0 c0, .slice a1 l1 c1, .slice a2 l2 c2, .slice a3 l3 c3, .int .i64 x, .int .i64 y] w
      fun e w' => e = .returned (.bool true) ∧ w' = w := by
  go_enter Try.func10, Try.ntmps10
  go_wp2
  go_ret
  exact ⟨rfl, rfl⟩

set_option maxHeartbeats 400000 in
theorem entry_any (H E len cap : Nat) (k : Nat) (w : World) (hk : k < len) (hl : len ≤ 1024)
    (c3 : w.cell? ⟨H, 3, none⟩ = some (.slice (some ⟨E, 0, none⟩) len cap)) :
    Calls Try.prog 9 #[.pointer (some ⟨H, 0, none⟩), .int .i64 k] w
      fun e w' => e = .returned (.pointer (some ⟨E, k * 4, none⟩)) ∧ w' = w := by
  go_enter Try.func9, Try.ntmps9
  go_wp2
  go_ret
  exact ⟨rfl, rfl⟩

set_option maxHeartbeats 400000 in
theorem at_any (H E len cap first i k : Nat) (w : World) (hf : first < len) (hi : i < len) (hl : len ≤ 1024)
    (hk : (k : Int) = slotOf (first + i) len) (hkl : k < len)
    (c3 : w.cell? ⟨H, 3, none⟩ = some (.slice (some ⟨E, 0, none⟩) len cap))
    (c4 : w.cell? ⟨H, 4, none⟩ = some (.int .i64 first)) :
    Calls Try.prog 11 #[.pointer (some ⟨H, 0, none⟩), .int .i64 i] w
      fun e w' => e = .returned (.pointer (some ⟨E, k * 4, none⟩)) ∧ ∃ m, w' = w.drewN m := by
  have HK : Hid ((k : Int) = slotOf (first + i) len) := hk
  clear hk
  have hkl' : (k : Int) < (len : Int) := by omega
  have hw : ∀ w : World, Calls Try.prog 12 #[.int .i64 ((first : Int) + i), .int .i64 len] w fun e w' => e = .returned (.int .i64 k) ∧ w' = w := by
    intro w
    rw [HK.out]
    exact wrap_any _ _ w (by omega) (by omega) (by omega) (by omega)
  have HW := hide hw
  clear hw
  go_enter Try.func11, Try.ntmps11
  go_wp2
  go_quiet ((go_at_call 12; exact Calls.quiet_of_same (HW.out _)))
  go_wp2
  go_ret
  exact ⟨rfl, _, rfl⟩

set_option maxHeartbeats 400000 in
theorem zzat_any (H E len cap first i k : Nat) (w : World) (hf : first < len) (hi : i < len) (hl : len ≤ 1024)
    (hk : (k : Int) = slotOf (first + i) len) (hkl : k < len)
    (c3 : w.cell? ⟨H, 3, none⟩ = some (.slice (some ⟨E, 0, none⟩) len cap))
    (c4 : w.cell? ⟨H, 4, none⟩ = some (.int .i64 first)) :
    Calls Try.prog 8 #[.pointer (some ⟨H, 0, none⟩), .int .i64 i] w
      fun e w' => e = .returned (.pointer (some ⟨E, k * 4, none⟩)) ∧ ∃ m, w' = w.drewN m := by
  have HA := hide (at_any H E len cap first i k w hf hi hl hk hkl c3 c4)
  clear hk
  go_enter Try.func8, Try.ntmps8
  go_wp2_with fail
  refine HA.out.mono ?_
  rintro e w' ⟨rfl, m, rfl⟩
  go_wp2
  go_ret
  exact ⟨rfl, _, rfl⟩

end Go.Proofs.Qxb6613843a
