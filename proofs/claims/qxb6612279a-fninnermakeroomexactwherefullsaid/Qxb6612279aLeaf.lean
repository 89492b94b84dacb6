import Derived.Test.Qxb6612279aRows
import Derived.WalkKit
import Derived.WalkSpells
import Derived.WalkLawsBesides
import Derived.Deep.QuietTactic
import Derived.Deep.OwnRows
import Derived.BigQuiet
import Derived.Laws.AppendOwnNone
import Derived.Maps.AppendAt
namespace Go.Proofs.Qxb6612279a
open Go.RowKit
set_option linter.unusedVariables false

theorem hide {p : Prop} (h : p) : Hid p := h

/-- the slice v reads as the bytes xs in w -/
def Reads (w : World) (v : Value) (xs : List Int) : Prop :=
  ∃ a c, v = .slice a xs.length c ∧ xs.length ≤ c ∧ (a = none → c = 0) ∧ ∀ ad, a = some ad → ∀ i, i < xs.length → w.cell? (ad.add i) = some (.int .u8 (xs.getD i 0))

theorem Reads.nil (w : World) : Reads w (.slice none 0 0) [] := ⟨none, 0, rfl, Nat.le_refl _, fun _ => rfl, fun _ h => by cases h⟩

theorem cell_lt {w : World} {a : Addr} {v : Value} (h : w.cell? a = some v) : a.block < w.heap.size := by
  simp only [World.cell?] at h
  by_cases hc : a.block < w.heap.size
  · exact hc
  · rw [Array.getElem?_eq_none (by omega)] at h; simp at h

theorem block_add (a : Addr) (j : Nat) : (a.add j).block = a.block := by unfold Addr.add; split <;> rfl

theorem Reads.later {w w' : World} {v : Value} {xs : List Int} (h : Reads w v xs) (hb : Below w.heap.size w w') : Reads w' v xs := by
  obtain ⟨a, c, rfl, hc, hn, hx⟩ := h
  refine ⟨a, c, rfl, hc, hn, fun ad e i hi => ?_⟩
  have h0 := hx ad e i hi
  rw [hb.cell (cell_lt h0)]
  exact h0

theorem Reads.drewN {w : World} {v : Value} {xs : List Int} (h : Reads w v xs) (n : Nat) : Reads (w.drewN n) v xs :=
  h.later (below_drewN (Below.refl _ _) n)

/-- in the form that the walk wants: the address written out, where there is an element -/
theorem Reads.at {w : World} {v : Value} {xs : List Int} (h : Reads w v xs) :
    ∃ a c, v = .slice a xs.length c ∧ (0 < xs.length → ∃ b off, a = some ⟨b, off, none⟩ ∧ ∀ i, i < xs.length → w.cell? ⟨b, off + i, none⟩ = some (.int .u8 (xs.getD i 0))) := by
  obtain ⟨a, c, rfl, hc, hn, hx⟩ := h
  refine ⟨a, c, rfl, fun hl => ?_⟩
  cases a with
  | none => have := hn rfl; omega
  | some ad =>
    obtain ⟨b, off, spot⟩ := ad
    have h0 := hx _ rfl 0 hl
    have hs : spot = none := by simpa [Addr.add] using World.cell?_spot h0
    subst hs
    exact ⟨b, off, rfl, fun i hi => by have := hx _ rfl i hi; rwa [Addr.add_lit] at this⟩

theorem Reads.cells {w : World} {v : Value} {xs : List Int} {a : Addr} {c : Nat} (hx : ∀ i, i < xs.length → w.cell? (a.add i) = some (.int .u8 (xs.getD i 0))) :
    ∀ j u, (xs.map (Value.int .u8))[j]? = some u → w.cell? (a.add j) = some u := by
  intro j u hj
  have hl : j < xs.length := by simpa using (List.getElem?_eq_some_iff.1 hj).1
  rw [hx j hl, ← hj]
  simp [hl]

set_option maxHeartbeats 400000 in
theorem bytes21 (a0 a1 : Option Addr) (l0 c0 l1 c1 : Nat) (w : World) (h0 : l0 ≤ maxLen) (h1 : l1 ≤ maxLen) :
    Calls Try.prog 21 #[.slice a0 l0 c0, .slice a1 l1 c1] w fun e w' => ∃ b, e = .returned (.bool b) ∧ w' = w := by
  unfold maxLen at h0 h1
  go_enter Try.func21, Try.ntmps21
  go_wp2
  all_goals (go_ret; exact ⟨_, rfl, rfl⟩)

set_option maxHeartbeats 400000 in
theorem bytes27 (a0 a1 : Option Addr) (l0 c0 l1 c1 : Nat) (x : Bool) (w : World) (h0 : l0 ≤ maxLen) (h1 : l1 ≤ maxLen) :
    Calls Try.prog 27 #[.slice a0 l0 c0, .slice a1 l1 c1, .bool x] w fun e w' => ∃ b, e = .returned (.bool b) ∧ w' = w := by
  unfold maxLen at h0 h1
  go_enter Try.func27, Try.ntmps27
  go_wp2
  all_goals (go_ret; exact ⟨_, rfl, rfl⟩)

set_option maxHeartbeats 400000 in
theorem afterFirst_big (a0 : Option Addr) (l0 c0 : Nat) (w : World) (h : (65536 : Int) ≤ (l0 : Int)) :
    Calls Try.prog 22 #[.slice a0 l0 c0] w fun e w' => e = .returned (.tuple #[.slice none 0 0, .slice a0 l0 c0]) ∧ w' = w := by
  go_enter Try.func22, Try.ntmps22
  go_wp2
  go_ret2
  exact ⟨rfl, rfl⟩

set_option maxHeartbeats 400000 in
theorem afterFirst_small (a0 : Option Addr) (l0 c0 : Nat) (w : World) (h : (l0 : Int) < 65536) :
    Calls Try.prog 22 #[.slice a0 l0 c0] w fun e w' => e = .returned (.tuple #[.slice a0 l0 c0, .slice none 0 0]) ∧ w' = w := by
  have hd : decide ((65536 : Int) ≤ (l0 : Int)) = false := decide_eq_false (Int.not_le.2 h)
  clear h
  go_enter Try.func22, Try.ntmps22
  go_wp2
  go_ret2
  exact ⟨rfl, rfl⟩

set_option maxHeartbeats 400000 in
/-- zzEq of two slices that read alike -/
theorem eq_true (v u : Value) (xs : List Int) (w : World) (hv : Reads w v xs) (hu : Reads w u xs) (hl : xs.length ≤ 4194304) :
    Calls Try.prog 19 #[v, u] w fun e w' => e = .returned (.bool true) ∧ ∃ n, w' = w.drewN n := by
  obtain ⟨a, c, rfl, hx⟩ := hv.at
  obtain ⟨a', c', rfl, hx'⟩ := hu.at
  clear hv hu
  have HX := hide hx
  have HX' := hide hx'
  clear hx hx'
  have hne : ((xs.length : Int) != (xs.length : Int)) = false := by simp
  go_enter Try.func19, Try.ntmps19
  go_wp2
  go_loopw [5] (fun i wr => ∃ k : Nat, k ≤ xs.length ∧ i = .int .i64 k ∧ ∃ n, wr = w.drewN n) (fun i _ => xs.length - (intOf i).toNat)
  case atStart => exact ⟨0, Nat.zero_le _, rfl, 0, rfl⟩
  case round =>
    obtain ⟨k, hk, rfl, n, rfl⟩ := hrel
    by_cases hlt : k < xs.length
    · have hlt' : (k : Int) < (xs.length : Int) := by omega
      obtain ⟨b, off, rfl, g⟩ := HX.out (by omega)
      obtain ⟨b', off', rfl, g'⟩ := HX'.out (by omega)
      have h1 := g k hlt
      have h2 := g' k hlt
      have hq : (xs[k]?.getD 0 != xs[k]?.getD 0) = false := by simp
      clear g g' HX HX'
      go_wp2
      go_quiet (fail)
      go_wp2
      go_roundw
      case rel => exact ⟨k + 1, by omega, by go_num, _, rfl⟩
      case measure => simp [intOf]; omega
    · go_wp2
      go_ret
      exact ⟨rfl, n, rfl⟩

theorem info5 : (Try.prog.info? 5).map (fun i => (i.zero, i.size, i.bytes)) = some (some (.int .u8 0), 1, 1) := by kernel_rfl

/-- 'append(v, u...)' of bytes, v a row of the call's own, u whatever reads as ys -/
theorem wpList_append_reads {w : World} {ops : Array Oper} {rest : List Oper} {o : Oper} {a : Act} {Q : Exit → Act → World → Prop} (hgd : o.guard = none) (s x : Operand)
    (ho : o.op = .call { callee := .builtin .append, args := #[s, x], argTypes := #[22, 22] }) (base : Nat) (v : Value) (n : Nat) (xs : List Value) (hs : a.eval s = v) (hown : w.ownsRow base 5 1 v n xs)
    (u : Value) (ys : List Int) (hx : a.eval x = u) (hu : Reads w u ys) (hb : n + ys.length ≤ 140737488355328) (hbase : base ≤ w.heap.size)
    (h : ∀ v' w', w'.ownsRow base 5 1 v' (n + ys.length) (xs ++ ys.map (Value.int .u8)) → w.grownBy w' v.ownBlock → (v'.ownBlock = v.ownBlock ∨ v'.ownBlock = some w.heap.size) → wpList Try.prog ops Q rest (a.put o.dst v') w') :
    wpList Try.prog ops Q (o :: rest) a w := by
  obtain ⟨i0, hi, hz0, hz1, hz2⟩ := info_parts info5
  obtain ⟨ao, c, rfl, hc, hn, hcell⟩ := hu
  cases ao with
  | none =>
    have hc0 := hn rfl
    subst hc0
    have hy : ys = [] := List.eq_nil_of_length_eq_zero (by omega)
    subst hy
    refine wpList_append_own_none hgd s x 22 ho base 5 i0 1 Try.underlying22 hi v n xs hs hown hx ?_
    exact h v w (by simpa using hown) (World.grownBy.refl _ _) (.inl rfl)
  | some ad =>
    refine wpList_append_own_at w hgd s x 22 ho base 5 i0 (.int .u8 0) 1 1 Try.underlying22 hi hz0 hz1 hz2 rfl (by decide) v n xs hs hown ad ys.length c (ys.map (Value.int .u8)) hx (by simp)
      (Reads.cells (v := .slice (some ad) ys.length c) (c := c) (hcell ad rfl)) (ints_oneCell _ _) (by unfold maxLen; omega) (by omega) hbase ?_
    intro v' w' h1 h2 _ h4
    exact h v' w' h1 h2 h4

theorem reads_own {w : World} {base n : Nat} {v : Value} {ys : List Int} (h : w.ownsRow base 5 1 v n (ys.map (Value.int .u8))) : Reads w v ys := by
  have hn : n = ys.length := by have := h.1; simp at this; omega
  subst hn
  rcases h.2 with ⟨rfl, h0⟩ | ⟨g, cap, cur, rfl, _, hg, hnc, _, _, _⟩
  · have hy : ys = [] := List.eq_nil_of_length_eq_zero h0
    subst hy
    exact Reads.nil w
  · refine ⟨_, cap, rfl, hnc, fun e => by simp at e, fun ad e i hi => ?_⟩
    cases e
    refine (h.cells (g := g) rfl i (.int .u8 (ys.getD i 0)) (by simp [hi]))

set_option maxHeartbeats 1000000 in
theorem cat_any (v u : Value) (xs ys : List Int) (w : World) (hv : Reads w v xs) (hu : Reads w u ys) (hl : xs.length ≤ 2097152) (hl' : ys.length ≤ 2097152) :
    Calls Try.prog 20 #[v, u] w fun e w' => ∃ r, e = .returned r ∧ Reads w' r (xs ++ ys) ∧ Below w.heap.size w w' := by
  obtain ⟨i0, hi, hz0, hz1, hz2⟩ := info_parts info5
  have HV := hide hv
  have HU := hide hu
  obtain ⟨a, c, rfl, hx⟩ := hv.at
  obtain ⟨a', c', rfl, hx'⟩ := hu.at
  clear hv hu hx hx'
  go_enter Try.func20, Try.ntmps20
  go_wp2_with (at_make; refine wpList_make_own _ rfl _ _ 22 rfl w.heap.size 5 i0 (.int .u8 0) 1 Try.underlying22 hi hz0 hz1 .i64 .i64 _ (xs.length + ys.length) rfl rfl (by omega) (by rw [hz2]; omega) (by unfold maxLen; omega) (Nat.le_refl _) ?_; intro w1 hown1 hgrow1; refine Hid.out ?_)
  refine hide ?_
  have hb1 : Below w.heap.size w w1 := (Below.refl _ _).grown hgrow1 (Nat.le_refl _) (fun k e => by cases e)
  have HV1 := hide (HV.out.later hb1)
  have HU1 := hide (HU.out.later hb1)
  clear hgrow1
  go_wp2_with (at_builtin; refine wpList_append_reads rfl (.tmp 12) (.tmp 13) rfl w.heap.size _ 0 [] rfl hown1 _ xs rfl HV1.out (by omega) hb1.size ?_; intro v2 w2 hown2 hgrow2 hloc2; refine Hid.out ?_)
  refine hide ?_
  have hb2 : Below w.heap.size w w2 := hb1.grown hgrow2 hb1.size (fun k e => (hown1.lt k e).1)
  have HU2 := hide (HU.out.later hb2)
  have hown2' : w2.ownsRow w.heap.size 5 1 v2 xs.length (xs.map (Value.int .u8)) := by simpa using hown2
  clear hgrow2 hown1 hown2
  go_wp2_with (at_builtin; refine wpList_append_reads rfl (.tmp 15) (.tmp 16) rfl w.heap.size _ _ _ rfl hown2' _ ys rfl HU2.out (by omega) hb2.size ?_; intro v3 w3 hown3 hgrow3 hloc3; refine Hid.out ?_)
  refine hide ?_
  have hb3 : Below w.heap.size w w3 := hb2.grown hgrow3 hb2.size (fun k e => (hown2'.lt k e).1)
  clear hgrow3
  go_wp2_with fail
  go_ret
  exact ⟨_, rfl, reads_own (base := w.heap.size) (n := xs.length + ys.length) (by rw [List.map_append]; exact hown3), hb3⟩

end Go.Proofs.Qxb6612279a
