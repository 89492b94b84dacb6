import Derived.Test.Qxb6609323aArg
namespace Go.Proofs.Qxb6609323a
open Go.RowKit Go.Maps Go.WideElems
set_option linter.unusedVariables false

/-- a value's bytes lie in a row of our own -/
def Vc (w : World) (B : Nat) (va : Option Addr) (vl : Nat) : Prop := (va = none ∧ vl = 0) ∨ ∃ g cur, va = some ⟨g, 0, none⟩ ∧ B ≤ g ∧ w.heap[g]? = some (.cells cur 5 (0, 0)) ∧ ∀ i, i < vl → ∃ x, cur[i]? = some (.int .u8 x)

theorem Vc.rd {w : World} {B : Nat} {va : Option Addr} {vl : Nat} (h : Vc w B va vl) : Rd w va vl ∧ ∀ g, va = some ⟨g, 0, none⟩ → g < w.heap.size := by
  rcases h with ⟨h1, h2⟩ | ⟨g, cur, h1, h2, h3, h4⟩
  · exact ⟨.inl ⟨h1, h2⟩, fun g e => by rw [h1] at e; cases e⟩
  · refine ⟨.inr ⟨g, h1, fun i hi => ?_⟩, fun g' e => ?_⟩
    · obtain ⟨x, hx⟩ := h4 i hi
      exact ⟨x, by simp [World.cell?, h3, hx]⟩
    · rw [h1] at e
      cases e
      exact heap_lt h3

theorem Vc.stat {w w' : World} {B : Nat} {va : Option Addr} {vl : Nat} (h : Vc w B va vl) (hs : Stat w w') : Vc w' B va vl := by
  rcases h with h1 | ⟨g, cur, h1, h2, h3, h4⟩
  · exact .inl h1
  · exact .inr ⟨g, cur, h1, h2, hs g cur 5 h3 (by decide) (by decide), h4⟩

theorem Vc.set {w : World} {B : Nat} {va : Option Addr} {vl : Nat} (h : Vc w B va vl) {p : Addr} {c : Array Value} {t : TypeId} (hp : w.heap[p.block]? = some (.cells c t (0, 0))) (ht : t ≠ 5) (u : Value) : Vc (w.setCell p u) B va vl := by
  rcases h with h1 | ⟨g, cur, h1, h2, h3, h4⟩
  · exact .inl h1
  · refine .inr ⟨g, cur, h1, h2, (Below.heap_setCell _ _ _ _ (fun e => ?_)).trans h3, h4⟩
    rw [← e, h3] at hp
    cases hp
    exact ht rfl

set_option maxRecDepth 100000 in
set_option maxHeartbeats 4000000 in
theorem clone17c (va : Option Addr) (vl vc : Nat) (w : World) (hv : vl ≤ 1048576) (h : Vr w va vl) :
    Calls Try.prog 17 #[.slice va vl vc] w fun e w' => ∃ va' vc', e = .returned (.slice va' vl vc') ∧ Vc w' w.heap.size va' vl ∧ Below w.heap.size w w' := by
  cases va with
  | none =>
    have hvl : vl = 0 := by
      rcases Nat.eq_zero_or_pos vl with h0 | h0
      · exact h0
      · obtain ⟨g, off, e, _⟩ := h h0
        cases e
    subst hvl
    have hnil : ∀ W n c, (binOp .eql 24 (.slice none n c) (.slice none 0 0)).run Try.prog W = .ok (.bool true) W := fun W n c => Lib.run_eql_slice_nil W _ _ none n c 0 0 Try.underlying24
    go_enter Try.func17, Try.ntmps17
    go_wp2_with fail
    go_ret
    exact ⟨none, 0, rfl, .inl ⟨rfl, rfl⟩, Below.refl _ _⟩
  | some ad =>
    have hnil : ∀ W n c, (binOp .eql 24 (.slice (some ad) n c) (.slice none 0 0)).run Try.prog W = .ok (.bool false) W := fun W n c => Lib.run_eql_slice_nil W _ _ (some ad) n c 0 0 Try.underlying24
    have hm := fun w => Go.run_make_row' (P := Try.prog) 24 5 _ 1 Try.underlying24 info5 rfl .i64 .i64 vl (by omega) (by omega) w
    go_enter Try.func17, Try.ntmps17
    go_wp2
    go_loopw [4] (fun i wr => ∃ k : Nat, k ≤ vl ∧ i = .int .i64 k ∧ (∃ f, wr.rowIs w.heap.size 5 vl f ∧ ∀ j, ∃ x, f j = .int .u8 x) ∧ Below w.heap.size w wr) (fun i _ => vl - (intOf i).toNat)
    case atStart => exact ⟨0, Nat.zero_le _, rfl, ⟨_, World.rowIs_made w (.int .u8 0) vl 5, fun j => ⟨0, rfl⟩⟩, (Below.refl _ _).alloc (Nat.le_refl _) _⟩
    case round =>
      obtain ⟨k, hk, rfl, ⟨f, hrow, hfx⟩, hb⟩ := hrel
      by_cases hlt : k < vl
      · obtain ⟨g, off, e, hg⟩ := h (by omega)
        cases e
        obtain ⟨x, hx⟩ := hg k hlt
        have h1 : wr.cell? ⟨g, off + k, none⟩ = some (.int .u8 x) := (hb.cell (p := ⟨g, off + k, none⟩) (cell_lt hx)).trans hx
        obtain ⟨y, hy⟩ := hfx k
        have h2 : wr.cell? ⟨w.heap.size, k, none⟩ = some (.int .u8 y) := (hrow.cell hlt).trans (by rw [hy])
        have h3 := hrow.frozen k
        have HROW := hide hrow
        clear hg hrow hx
        go_wp2
        go_roundw
        case rel =>
          refine ⟨k + 1, by omega, by go_num, ⟨_, HROW.out.set k _, fun j => ?_⟩, hb.setCell (Nat.le_refl _) _⟩
          split
          · exact ⟨x, rfl⟩
          · exact hfx j
        case measure => simp [intOf]; omega
      · have HROW := hide hrow
        clear hrow
        go_wp2
        go_ret
        obtain ⟨c, hc, hcs, hci⟩ := HROW.out
        refine ⟨_, _, rfl, .inr ⟨_, c, rfl, Nat.le_refl _, hc, fun i hi => ?_⟩, hb⟩
        obtain ⟨x, hx⟩ := hfx i
        exact ⟨x, (hci i hi).trans (by rw [hx])⟩

def Fr.d (f : Fr) : Int × Int × ByteArray × Nat := (f.k, f.o, f.s, vlen f.v)

/-- the frames cloned -/
structure Cl (w : World) (B : Nat) (v : Value) (T : List Fr) : Prop where
  sh : (T = [] ∧ ∃ a c, v = .slice a 0 c) ∨ ∃ g cur, v = .slice (some ⟨g, 0, none⟩) T.length T.length ∧ B ≤ g ∧ w.heap[g]? = some (.cells cur 26 (0, 0)) ∧ ∀ i f, T[i]? = some f → FAt w g (i * 4) f
  vals : ∀ f ∈ T, ∃ va vl vc, f.v = .slice va vl vc ∧ Vc w B va vl

end Go.Proofs.Qxb6609323a
