import Derived.Test.Qxb6609323aTake
namespace Go.Proofs.Qxb6609323a
open Go.RowKit Go.Maps Go.WideElems
open Go.ChangeMaps (setBlock modify_eq_set)
set_option linter.unusedVariables false

theorem take19 (base pb pw clk cb : Nat) (vw : Value) (F : List Fr) (m : Option Nat) (L : List En) (z room : Int) (w : World) (hb : Bt w base pb (.slice none 0 0) [] none [] cb 0) (hw : Bt w base pw vw F m L clk z) (hd : ¬ Bo pw vw m pb)
    (hr0 : -9223372036854775808 ≤ room) (hr1 : room ≤ 9223372036854775807) (hL : Pos L) (hzt : z = fsum F + Wt szk L) (hz1 : z ≤ 1048576) (hnm : ∀ e ∈ L, e.s.size ≤ 1048576 ∧ szk e.kk < room) (hFo : ∀ f ∈ F, FOk f) (hFn : F.length ≤ 100000) :
    Calls Try.prog 19 #[.pointer (some ⟨pb, 0, none⟩), .pointer (some ⟨pw, 0, none⟩), .int .i64 room] w fun e w' => e = .returned (.tuple #[]) ∧ ∃ F1 F2 vb vw' mb m' Lb Lw cb' clk', Took w w' base pb pw vw F m L clk room F1 F2 vb vw' mb m' Lb Lw cb' clk' := by
  by_cases hz : z ≤ room
  · have hne : pb ≠ pw := fun e => hd (e ▸ .inl rfl)
    refine (take19a base pb pw clk cb (.slice none 0 0) vw F [] m none L [] z 0 room w hb hw hne ?_ hz).mono ?_
    · rintro k (rfl | e | e)
      · exact hd
      · cases e
      · cases e
    · rintro e w' ⟨rfl, h1, h2, h3⟩
      refine ⟨rfl, F, [], vw, .slice none 0 0, m, none, L, [], clk, cb, ⟨by simp, ?_, h2, fun g => by rw [Wt_nil]; omega, hL, (fun e he => by cases he), fun h => h, .inl (by omega), (fun e he => by cases he), h3.mono (fun k _ hk => ?_)⟩⟩
      · rw [← hzt]; exact h1
      · rcases hk with rfl | rfl
        · exact .inl rfl
        · exact .inr (.inl rfl)
  · exact take19b base pb pw clk cb vw F m L z room w hb hw hd (by omega) hr0 hr1 hL hzt hz1 hnm hFo hFn

theorem take12 (base pb pw clk cb : Nat) (vw : Value) (F : List Fr) (m : Option Nat) (L : List En) (z room : Int) (w : World) (hb : Bt w base pb (.slice none 0 0) [] none [] cb 0) (hw : Bt w base pw vw F m L clk z) (hd : ¬ Bo pw vw m pb)
    (hr0 : -9223372036854775808 ≤ room) (hr1 : room ≤ 9223372036854775807) (hL : Pos L) (hzt : z = fsum F + Wt szk L) (hz1 : z ≤ 1048576) (hnm : ∀ e ∈ L, e.s.size ≤ 1048576 ∧ szk e.kk < room) (hFo : ∀ f ∈ F, FOk f) (hFn : F.length ≤ 100000) :
    Calls Try.prog 12 #[.pointer (some ⟨pb, 0, none⟩), .pointer (some ⟨pw, 0, none⟩), .int .i64 room] w fun e w' => e = .returned (.tuple #[]) ∧ ∃ F1 F2 vb vw' mb m' Lb Lw cb' clk', Took w w' base pb pw vw F m L clk room F1 F2 vb vw' mb m' Lb Lw cb' clk' := by
  have H := hide (take19 base pb pw clk cb vw F m L z room w hb hw hd hr0 hr1 hL hzt hz1 hnm hFo hFn)
  clear hb hw hd hr0 hr1 hL hzt hz1 hnm hFo hFn
  go_enter Try.func12, Try.ntmps12
  go_wp2_with fail
  refine H.out.mono ?_
  rintro e w' ⟨rfl, hT⟩
  go_wp2_with fail
  go_end0
  exact ⟨rfl, hT⟩

theorem add9w (base p clk : Nat) (vw : Value) (F : List Fr) (m : Option Nat) (L : List En) (z : Int) (k o : Int) (s : ByteArray) (va : Option Addr) (vl vc : Nat) (w : World) (h : Bt w base p vw F m L clk z) (hk : k = 0 ∨ k = 1) (hs : s.size ≤ 1048576) (hv : vl ≤ 1048576)
    (hn : F.length ≤ 100000) (hz0 : -1000000000000 ≤ z) (hz1 : z ≤ 1000000000000) :
    Calls Try.prog 9 #[.pointer (some ⟨p, 0, none⟩), .int .u8 k, .int .i64 o, .string s, .slice va vl vc] w fun e w' => e = .returned (.tuple #[]) ∧ ∃ vw', Bt w' base p vw' (F ++ [⟨k, o, s, .slice va vl vc⟩]) m L clk (z + (fsz k o s.size vl : Int)) ∧ Keep (Bo p vw m) w w' := by
  have H := hide (add18w base p clk vw F m L z k o s va vl vc w h hk hs hv hn hz0 hz1)
  clear h hk hs hv hn hz0 hz1
  go_enter Try.func9, Try.ntmps9
  go_wp2_with fail
  refine H.out.mono ?_
  rintro e w' ⟨rfl, vw', h1, h2, h3⟩
  go_wp2_with fail
  go_end0
  exact ⟨rfl, vw', h1, h3⟩

theorem add9b (base p clk : Nat) (vw : Value) (F : List Fr) (m : Option Nat) (L : List En) (z : Int) (k o : Int) (s : ByteArray) (va : Option Addr) (vl vc : Nat) (w : World) (h : Bt w base p vw F m L clk z) (hk : KOk k o s) (hk1 : 1 < k) (hs : s.size ≤ 1048576)
    (hz0 : -1000000000000 ≤ z) (hz1 : z ≤ 1000000000000) (hc0 : -1000000000000 ≤ cnt L k o s) (hc1 : cnt L k o s ≤ 1000000000000) :
    Calls Try.prog 9 #[.pointer (some ⟨p, 0, none⟩), .int .u8 k, .int .i64 o, .string s, .slice va vl vc] w fun e w' => e = .returned (.tuple #[]) ∧ ∃ b c0 clk', Bt w' base p vw F (some b) (bump L k o s (cnt L k o s + 1) c0) clk' (z + (fsz k o s.size 0 : Int)) ∧ Keep (Bo p vw m) w w' := by
  have H := hide (add18b base p clk vw F m L z k o s va vl vc w h hk hk1 hs hz0 hz1 hc0 hc1)
  clear h hk hs hk1 hc0 hc1 hz0 hz1
  go_enter Try.func9, Try.ntmps9
  go_wp2_with fail
  refine H.out.mono ?_
  rintro e w' ⟨rfl, b, c0, clk', h1, h2, h3⟩
  go_wp2_with fail
  go_end0
  exact ⟨rfl, b, c0, clk', h1, h3⟩

/-- blocks of cells of types other than a batch's are kept -/
def Stat (w w' : World) : Prop := ∀ (j : Nat) (c : Array Value) (t : TypeId) , w.heap[j]? = some (.cells c t (0, 0)) → t ≠ 47 → t ≠ 55 → w'.heap[j]? = some (.cells c t (0, 0))

theorem Stat.refl (w : World) : Stat w w := fun _ _ _ h _ _ => h
theorem Stat.trans {a b c : World} (h : Stat a b) (k : Stat b c) : Stat a c := fun j cc t h1 h2 h3 => k j cc t (h j cc t h1 h2 h3) h2 h3
theorem Stat.of_below {w w' : World} (h : Below w.heap.size w w') : Stat w w' := fun j c t h1 _ _ => (h.block j (heap_lt h1)).trans h1
theorem Stat.of_keep {w w' : World} {base p clk : Nat} {vw : Value} {F : List Fr} {m : Option Nat} {L : List En} {z : Int} (h : Bt w base p vw F m L clk z) (hk : Keep (Bo p vw m) w w') : Stat w w' := by
  intro j c t h1 h2 h3
  refine (hk.block j (heap_lt h1) ?_).trans h1
  rintro (e | e | e)
  · rw [e, h.st] at h1; cases h1; exact h2 rfl
  · obtain ⟨cur, h4⟩ := own_row h.row e
    rw [h4] at h1; cases h1; exact h3 rfl
  · rw [(h.mso j e).2.blk] at h1; cases h1
theorem Stat.of_keep2 {w w' : World} {base p clk q : Nat} {vw : Value} {F : List Fr} {m : Option Nat} {L : List En} {z : Int} {cq : Array Value} (h : Bt w base p vw F m L clk z) (hq : w.heap[q]? = some (.cells cq 47 (0, 0))) (hk : Keep (fun k => k = q ∨ Bo p vw m k) w w') : Stat w w' := by
  intro j c t h1 h2 h3
  refine (hk.block j (heap_lt h1) ?_).trans h1
  rintro (e | e | e | e)
  · rw [e, hq] at h1; cases h1; exact h2 rfl
  · rw [e, h.st] at h1; cases h1; exact h2 rfl
  · obtain ⟨cur, h4⟩ := own_row h.row e
    rw [h4] at h1; cases h1; exact h3 rfl
  · rw [(h.mso j e).2.blk] at h1; cases h1
theorem Stat.own {w w' : World} {base n sz : Nat} {e : TypeId} {v : Value} {xs : List Value} (h : Stat w w') (ho : w.ownsRow base e sz v n xs) (h1 : e ≠ 47) (h2 : e ≠ 55) : w'.ownsRow base e sz v n xs := by
  refine own4_of_block ho (fun g hg => ?_)
  obtain ⟨cur, h3⟩ := own_row ho hg
  rw [h g cur e h3 h1 h2, h3]

end Go.Proofs.Qxb6609323a
