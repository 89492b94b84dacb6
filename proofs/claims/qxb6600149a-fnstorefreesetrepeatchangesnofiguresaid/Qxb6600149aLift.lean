import Derived.Test.Qxb6600149aLeaf
namespace Go.Proofs.Qxb6600149a
open Go.RowKit
set_option linter.unusedVariables false

/-- the greatest of f 0 .. f n -/
def topOf (f : Nat → Int) : Nat → Int
  | 0 => f 0
  | n + 1 => if f (n + 1) > topOf f n then f (n + 1) else topOf f n

theorem topOf_ge (f : Nat → Int) : ∀ (n i : Nat), i ≤ n → f i ≤ topOf f n
  | 0, i, h => by have : i = 0 := by omega
                  subst this; exact Int.le_refl _
  | n + 1, i, h => by
    unfold topOf
    by_cases e : i = n + 1
    · subst e; split <;> omega
    · have := topOf_ge f n i (by omega)
      split <;> omega

set_option maxHeartbeats 1000000 in
theorem max35 (b off n c : Nat) (f : Nat → Int) (w : World) (hn : n ≤ 65536) (hc : ∀ j, j ≤ n → w.cell? ⟨b, off + j, none⟩ = some (.int .i16 (f j))) :
    Calls Try.prog 35 #[.slice (some ⟨b, off, none⟩) (n + 1) c] w fun e w' => e = .returned (.int .i16 (topOf f n)) ∧ w' = w := by
  have h0 : w.cell? ⟨b, off, none⟩ = some (.int .i16 (f 0)) := by simpa using hc 0 (by omega)
  have HC := hide hc
  clear hc
  have hmx : ∀ (x y : Int) (W : World), (Builtin.max_ #[44, 44] 44 #[.int .i16 x, .int .i16 y]).run Try.prog W = .ok (.int .i16 (if y > x then y else x)) W := fun x y W => rfl
  go_enter Try.func35, Try.ntmps35
  go_wp2
  go_loop [3, 4] (fun m i => ∃ k : Nat, k ≤ n ∧ i = .int .i64 ((k + 1 : Nat) : Int) ∧ m = .int .i16 (topOf f k)) (fun _ i => n + 1 - (intOf i).toNat)
  case atStart => exact ⟨0, Nat.zero_le _, rfl, rfl⟩
  case round =>
    obtain ⟨k, hk, rfl, rfl⟩ := hrel
    by_cases hlt : k < n
    · have h1 : w.cell? ⟨b, off + (k + 1), none⟩ = some (.int .i16 (f (k + 1))) := HC.out (k + 1) (by omega)
      obtain ⟨z, hz⟩ : ∃ z, z = f (k + 1) := ⟨_, rfl⟩
      obtain ⟨t, ht⟩ : ∃ t, t = topOf f k := ⟨_, rfl⟩
      have hs : topOf f (k + 1) = if z > t then z else t := by rw [hz, ht]; rfl
      rw [← hz] at h1
      rw [← ht]
      have HS := hide hs
      clear hz ht hs
      go_wp2
      all_goals
        go_round
        case rel => exact ⟨k + 1, by omega, by go_num, by first | (rw [HS.out]; done) | (rw [HS.out, if_pos (by omega)]) | (rw [HS.out, if_neg (by omega)])⟩
        case measure => simp [intOf]; omega
    · have hke : k = n := by omega
      subst hke
      go_wp2
      go_ret
      exact ⟨rfl, rfl⟩

/-- what lift makes of the block's mark -/
def liftV (mo top was t : Int) : Int := if mo ≤ t then t else if was = mo then top else mo

set_option maxHeartbeats 1000000 in
theorem lift34 (g j b off n c : Nat) (f : Nat → Int) (mo was t : Int) (w : World) (hn : n ≤ 65536) (hc : ∀ j, j ≤ n → w.cell? ⟨b, off + j, none⟩ = some (.int .i16 (f j)))
    (hm : w.cell? ⟨g, j, none⟩ = some (.int .i16 mo)) (hf : w.frozen? ⟨g, j, none⟩ = false) :
    Calls Try.prog 34 #[.pointer (some ⟨g, j, none⟩), .slice (some ⟨b, off, none⟩) (n + 1) c, .int .i16 was, .int .i16 t] w fun e w' => e = .returned (.tuple #[]) ∧
      (w' = w.setCell ⟨g, j, none⟩ (.int .i16 (liftV mo (topOf f n) was t)) ∨ (w' = w ∧ liftV mo (topOf f n) was t = mo)) := by
  have HM := hide (max35 b off n c f w hn hc)
  clear hc
  by_cases h1 : mo ≤ t
  · have hv : liftV mo (topOf f n) was t = t := by unfold liftV; rw [if_pos h1]
    rw [hv]
    go_enter Try.func34, Try.ntmps34
    go_wp2
    go_end0
    exact ⟨rfl, .inl rfl⟩
  · by_cases h2 : was = mo
    · have hv : liftV mo (topOf f n) was t = topOf f n := by unfold liftV; rw [if_neg h1, if_pos h2]
      rw [hv]
      subst h2
      go_enter Try.func34, Try.ntmps34
      go_wp2_with fail
      refine HM.out.mono ?_
      rintro e w' ⟨rfl, rfl⟩
      go_wp2_with fail
      go_end0
      exact ⟨rfl, .inl rfl⟩
    · have hv : liftV mo (topOf f n) was t = mo := by unfold liftV; rw [if_neg h1, if_neg h2]
      have h2' : (was == mo) = false := by simpa using h2
      have HV := hide hv
      clear hv
      go_enter Try.func34, Try.ntmps34
      go_wp2_with fail
      go_end0
      exact ⟨rfl, .inr ⟨rfl, HV.out⟩⟩

end Go.Proofs.Qxb6600149a
