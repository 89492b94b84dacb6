import Derived.Test.Qxb6609323aGet
import Derived.WalkSpells
import Derived.WalkLawsBesides
import Derived.Deep.QuietTactic
import Derived.Deep.OwnRows
import Derived.Lib.Slices
import Derived.Lib.SliceRun
namespace Go.Proofs.Qxb6609323a
open Go.RowKit Go.Maps Go.WideElems
open Go.ChangeMaps (setBlock modify_eq_set)
set_option linter.unusedVariables false

theorem Below.drewN' {B : Nat} {a w : World} (n : Nat) (h : Below B a w) : Below B a (w.drewN n) := ⟨h.os, h.tape, h.output, h.size, h.block⟩

theorem cellsOf_at : ∀ (F : List Fr) (i j : Nat) (f : Fr), F[i]? = some f → j < 4 → (cellsOf F)[i * 4 + j]? = f.cells[j]?
  | [], i, j, f, h, _ => by simp at h
  | a :: r, 0, j, f, h, hj => by
    simp at h
    subst h
    show (Fr.cells a ++ cellsOf r)[0 * 4 + j]? = _
    rw [Nat.zero_mul, Nat.zero_add, List.getElem?_append_left]
    exact hj
  | a :: r, i + 1, j, f, h, hj => by
    show (Fr.cells a ++ cellsOf r)[(i + 1) * 4 + j]? = _
    have h1 : (Fr.cells a).length = 4 := rfl
    rw [List.getElem?_append_right (by omega), h1]
    have : (i + 1) * 4 + j - 4 = i * 4 + j := by omega
    rw [this]
    exact cellsOf_at r i j f (by simpa using h) hj

section
variable {w w' : World} {base p clk : Nat} {vw : Value} {F : List Fr} {m : Option Nat} {L : List En} {z : Int}

theorem Bt.write (h : Bt w base p vw F m L clk z) {i : Nat} {f : Fr} (hi : F[i]? = some f) : ∃ g cap, vw = .slice (some ⟨g, 0, none⟩) F.length cap ∧
    w.cell? ⟨g, i * 4, none⟩ = some (.int .i64 f.o) ∧ w.cell? ⟨g, i * 4 + 1, none⟩ = some (.string f.s) ∧ w.cell? ⟨g, i * 4 + 2, none⟩ = some (.int .u8 f.k) ∧ w.cell? ⟨g, i * 4 + 3, none⟩ = some f.v := by
  have hlt : i < F.length := (List.getElem?_eq_some_iff.1 hi).1
  rcases h.row.2 with ⟨h0, h1⟩ | ⟨g, cap, cur, rfl, h1, h2, h3, h4, h5, h6⟩
  · omega
  · have hc : ∀ j, j < 4 → w.cell? ⟨g, i * 4 + j, none⟩ = f.cells[j]? := by
      intro j hj
      rw [← cellsOf_at F i j f hi hj, ← h6, List.getElem?_take_of_lt (by omega)]
      simp [World.cell?, h2]
    exact ⟨g, cap, rfl, hc 0 (by omega), hc 1 (by omega), hc 2 (by omega), hc 3 (by omega)⟩
end

set_option maxRecDepth 100000 in
set_option maxHeartbeats 4000000 in
theorem write20 (base p clk : Nat) (vw : Value) (F : List Fr) (m : Option Nat) (L : List En) (z : Int) (w : World) (h : Bt w base p vw F m L clk z) (i : Nat) (f : Fr) (hi : F[i]? = some f) (va : Option Addr) (vl vc : Nat) (hv : f.v = .slice va vl vc) :
    Calls Try.prog 20 #[.pointer (some ⟨p, 0, none⟩), .int .i64 (i : Int)] w fun e w' => e = .returned (.tuple #[.int .u8 f.k, .int .i64 f.o, .string f.s, .slice va vl vc]) ∧ Below w.heap.size w w' := by
  have c0 := h.c0
  obtain ⟨g, cap, rfl, h0, h1, h2, h3⟩ := h.write hi
  rw [hv] at h3
  have hlt : i < F.length := (List.getElem?_eq_some_iff.1 hi).1
  obtain ⟨k, o, s, v⟩ := f
  have hbx : ∀ W : World, (W.alloc (.cells #[.int .i64 o, .string s, .int .u8 k, .slice va vl vc] 55 (0, 0))).heap[W.heap.size]? = some (.cells #[.int .i64 o, .string s, .int .u8 k, .slice va vl vc] 55 (0, 0)) := fun W => Array.getElem?_push_size
  obtain ⟨x0, x1, x2, x3⟩ := cells4 (hbx w)
  have HH := hide h
  clear h hi hv
  go_enter Try.func20, Try.ntmps20
  go_wp2_with fail
  go_quiet (fail)
  go_wp2_with fail
  refine bodyPost_ret (v := .tuple #[.int .u8 k, .int .i64 o, .string s, .slice va vl vc]) (by simp [results, Try.results20, go_sem]) rfl ⟨rfl, ?_⟩
  exact Below.drewN' _ ((Below.refl _ _).alloc (Nat.le_refl _) _)

/-- the bytes of a value can be read -/
def Rd (w : World) (va : Option Addr) (vl : Nat) : Prop := (va = none ∧ vl = 0) ∨ ∃ g, va = some ⟨g, 0, none⟩ ∧ ∀ i, i < vl → ∃ x, w.cell? ⟨g, i, none⟩ = some (.int .u8 x)

set_option maxRecDepth 100000 in
set_option maxHeartbeats 4000000 in
theorem same21 (va : Option Addr) (vl vc : Nat) (w : World) (hv : vl ≤ 1048576) (h : Rd w va vl) (hin : ∀ g, va = some ⟨g, 0, none⟩ → g < w.heap.size) :
    Calls Try.prog 21 #[.slice va vl vc, .slice va vl vc] w fun e w' => e = .returned (.bool true) ∧ Below w.heap.size w w' := by
  have hq : ((vl : Int) != (vl : Int)) = false := by simp
  go_enter Try.func21, Try.ntmps21
  go_wp2_with fail
  go_loopw [5] (fun vi wr => ∃ (i : Nat), vi = .int .i64 (i : Int) ∧ i ≤ vl ∧ Below w.heap.size w wr) (fun vi _ => vl - (intOf vi).toNat)
  case atStart => exact ⟨0, rfl, Nat.zero_le _, Below.refl _ _⟩
  case round =>
    obtain ⟨i, rfl, hi, hb⟩ := hrel
    by_cases hlt : i < vl
    · rcases h with ⟨_, h0⟩ | ⟨g, rfl, hg⟩
      · omega
      · obtain ⟨x, hx⟩ := hg i hlt
        have hx' : wr.cell? ⟨g, i, none⟩ = some (.int .u8 x) := (hb.cell (p := ⟨g, i, none⟩) (hin g rfl)).trans hx
        have HB := hide hb
        clear hb hx hg
        go_wp2_with fail
        go_quiet (fail)
        go_wp2_with fail
        go_roundw
        case rel => exact ⟨i + 1, by go_num, by omega, Below.drewN' _ HB.out⟩
        case measure => simp [intOf]; omega
    · have : i = vl := by omega
      subst this
      go_wp2_with fail
      go_ret
      exact ⟨rfl, hb⟩

theorem Rd.later {w w' : World} {va : Option Addr} {vl : Nat} (h : Rd w va vl) (hin : ∀ g, va = some ⟨g, 0, none⟩ → g < w.heap.size) (hb : Below w.heap.size w w') : Rd w' va vl := by
  rcases h with h0 | ⟨g, rfl, hg⟩
  · exact .inl h0
  · refine .inr ⟨g, rfl, fun i hi => ?_⟩
    obtain ⟨x, hx⟩ := hg i hi
    exact ⟨x, (hb.cell (p := ⟨g, i, none⟩) (hin g rfl)).trans hx⟩

set_option maxRecDepth 100000 in
set_option maxHeartbeats 4000000 in
theorem is13 (base p clk : Nat) (vw : Value) (F : List Fr) (m : Option Nat) (L : List En) (z : Int) (w : World) (h : Bt w base p vw F m L clk z) (i : Nat) (k o : Int) (s : ByteArray) (va : Option Addr) (vl vc : Nat) (hi : F[i]? = some ⟨k, o, s, .slice va vl vc⟩) (hv : vl ≤ 1048576) (hr : Rd w va vl) (hin : ∀ g, va = some ⟨g, 0, none⟩ → g < w.heap.size) :
    Calls Try.prog 13 #[.pointer (some ⟨p, 0, none⟩), .int .i64 (i : Int), .agg #[.int .u8 k, .int .i64 o, .string s, .slice va vl vc]] w fun e w' => e = .returned (.bool true) ∧ Below w.heap.size w w' := by
  have hb0 : Below w.heap.size w (w.alloc (.cells #[.int .u8 k, .int .i64 o, .string s, .slice va vl vc] 26 (0, 0))) := (Below.refl _ _).alloc (Nat.le_refl _) _
  have hA := h.later hb0
  have H20 := hide (write20 base p clk vw F m L z _ hA i _ hi va vl vc rfl)
  have hbx : (w.alloc (.cells #[.int .u8 k, .int .i64 o, .string s, .slice va vl vc] 26 (0, 0))).heap[w.heap.size]? = some (.cells #[.int .u8 k, .int .i64 o, .string s, .slice va vl vc] 26 (0, 0)) := Array.getElem?_push_size
  have HX := hide hbx
  have HR := hide (And.intro hv (And.intro (hr.later hin hb0) (fun g e => show g < (w.alloc (.cells #[.int .u8 k, .int .i64 o, .string s, .slice va vl vc] 26 (0, 0))).heap.size from by have := hin g e; simp; omega)))
  have HB0 := hide hb0
  clear h hi hv hr hin hA hbx hb0
  go_enter Try.func13, Try.ntmps13
  go_wp2_with fail
  refine H20.out.mono ?_
  rintro e w1 ⟨rfl, hb1⟩
  obtain ⟨x0, x1, x2, x3⟩ := cells4 ((hb1.block w.heap.size (by simp)).trans HX.out)
  have H21 := hide (same21 va vl vc w1 HR.out.1 (HR.out.2.1.later HR.out.2.2 hb1) (fun g e => Nat.lt_of_lt_of_le (HR.out.2.2 g e) hb1.size))
  have HB1 := hide hb1
  clear hb1
  go_wp2_with fail
  refine H21.out.mono ?_
  rintro e w2 ⟨rfl, hb2⟩
  go_wp2_with fail
  go_ret
  refine ⟨rfl, HB0.out.trans ((HB1.out.mono (by simp)).trans (hb2.mono ?_))⟩
  exact Nat.le_trans HB0.out.size HB1.out.size

set_option maxRecDepth 100000 in
set_option maxHeartbeats 4000000 in
theorem clone17 (va : Option Addr) (vl vc : Nat) (w : World) (hv : vl ≤ 1048576) (h : (va = none ∧ vl = 0) ∨ ∃ g off, va = some ⟨g, off, none⟩ ∧ g < w.heap.size ∧ ∀ i, i < vl → ∃ x, w.cell? ⟨g, off + i, none⟩ = some (.int .u8 x)) :
    Calls Try.prog 17 #[.slice va vl vc] w fun e w' => ∃ va' vc', e = .returned (.slice va' vl vc') ∧ Rd w' va' vl ∧ (∀ g, va' = some ⟨g, 0, none⟩ → w.heap.size ≤ g ∧ g < w'.heap.size) ∧ Below w.heap.size w w' := by
  rcases h with ⟨rfl, rfl⟩ | ⟨g, off, rfl, hgl, hg⟩
  · have hnil : ∀ W n c, (binOp .eql 24 (.slice none n c) (.slice none 0 0)).run Try.prog W = .ok (.bool true) W := fun W n c => Lib.run_eql_slice_nil W _ _ none n c 0 0 Try.underlying24
    go_enter Try.func17, Try.ntmps17
    go_wp2_with fail
    go_ret
    exact ⟨none, 0, rfl, .inl ⟨rfl, rfl⟩, (fun g e => by cases e), Below.refl _ _⟩
  · have hnil : ∀ W n c, (binOp .eql 24 (.slice (some ⟨g, off, none⟩) n c) (.slice none 0 0)).run Try.prog W = .ok (.bool false) W := fun W n c => Lib.run_eql_slice_nil W _ _ (some ⟨g, off, none⟩) n c 0 0 Try.underlying24
    have hm := fun w => Go.run_make_row' (P := Try.prog) 24 5 _ 1 Try.underlying24 info5 rfl .i64 .i64 vl (by omega) (by omega) w
    go_enter Try.func17, Try.ntmps17
    go_wp2
    go_loopw [4] (fun i wr => ∃ k : Nat, k ≤ vl ∧ i = .int .i64 k ∧ (∃ f, wr.rowIs w.heap.size 5 vl f ∧ ∀ j, ∃ x, f j = .int .u8 x) ∧ Below w.heap.size w wr) (fun i _ => vl - (intOf i).toNat)
    case atStart => exact ⟨0, Nat.zero_le _, rfl, ⟨_, World.rowIs_made w (.int .u8 0) vl 5, fun j => ⟨0, rfl⟩⟩, (Below.refl _ _).alloc (Nat.le_refl _) _⟩
    case round =>
      obtain ⟨k, hk, rfl, ⟨f, hrow, hfx⟩, hb⟩ := hrel
      by_cases hlt : k < vl
      · obtain ⟨x, hx⟩ := hg k hlt
        have h1 : wr.cell? ⟨g, off + k, none⟩ = some (.int .u8 x) := (hb.cell (p := ⟨g, off + k, none⟩) hgl).trans hx
        obtain ⟨y, hy⟩ := hfx k
        have h2 : wr.cell? ⟨w.heap.size, k, none⟩ = some (.int .u8 y) := (hrow.cell hlt).trans (by rw [hy])
        have h3 := hrow.frozen k
        have HROW := hide hrow
        have HG := hide hg
        clear hg hrow hx
        go_wp2
        go_roundw
        case rel =>
          refine ⟨k + 1, by omega, by go_num, ⟨_, HROW.out.set k _, fun j => ?_⟩, hb.setCell (Nat.le_refl _) _⟩
          split
          · exact ⟨x, rfl⟩
          · exact hfx j
        case measure => simp [intOf]; omega
      · have HROW := hide hrow
        clear hrow
        go_wp2
        go_ret
        refine ⟨_, _, rfl, .inr ⟨_, rfl, fun i hi => ?_⟩, (fun g' e => ?_), hb⟩
        · obtain ⟨x, hx⟩ := hfx i
          exact ⟨x, (HROW.out.cell hi).trans (by rw [hx])⟩
        · cases e
          obtain ⟨c, hc, _⟩ := HROW.out
          exact ⟨Nat.le_refl _, heap_lt hc⟩

end Go.Proofs.Qxb6609323a
