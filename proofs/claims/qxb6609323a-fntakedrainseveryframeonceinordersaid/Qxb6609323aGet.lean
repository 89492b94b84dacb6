import Derived.Test.Qxb6609323aAddW
import Derived.BigQuiet
namespace Go.Proofs.Qxb6609323a
open Go.RowKit Go.Maps Go.WideElems
open Go.ChangeMaps (setBlock modify_eq_set)
set_option linter.unusedVariables false

theorem writes10 (base p clk : Nat) (vw : Value) (F : List Fr) (m : Option Nat) (L : List En) (z : Int) (w : World) (h : Bt w base p vw F m L clk z) :
    Calls Try.prog 10 #[.pointer (some ⟨p, 0, none⟩)] w fun e w' => e = .returned (.int .i64 (F.length : Int)) ∧ w' = w := by
  have c0 := h.c0
  obtain ⟨v0, v2, rfl⟩ : ∃ a c, vw = .slice a F.length c := by
    rcases h.row.2 with ⟨h0, h1⟩ | ⟨g', c', _, h0, _⟩
    · exact ⟨_, _, by rw [h0, h1]⟩
    · exact ⟨_, _, h0⟩
  go_enter Try.func10, Try.ntmps10
  go_wp2_with fail
  go_ret
  exact ⟨rfl, rfl⟩

theorem keys11 (base p clk : Nat) (vw : Value) (F : List Fr) (m : Option Nat) (L : List En) (z : Int) (w : World) (h : Bt w base p vw F m L clk z) :
    Calls Try.prog 11 #[.pointer (some ⟨p, 0, none⟩)] w fun e w' => e = .returned (.int .i64 (L.length : Int)) ∧ w' = w := by
  have c0 := h.c1
  cases m with
  | none =>
    obtain rfl := h.mno rfl
    go_enter Try.func11, Try.ntmps11
    go_wp2_with fail
    go_ret
    exact ⟨rfl, rfl⟩
  | some b =>
    have hb := (h.mso b rfl).2.len 3
    go_enter Try.func11, Try.ntmps11
    go_wp2_with fail
    go_ret
    refine ⟨?_, rfl⟩
    simp

theorem size15 (base p clk : Nat) (vw : Value) (F : List Fr) (m : Option Nat) (L : List En) (z : Int) (w : World) (h : Bt w base p vw F m L clk z) :
    Calls Try.prog 15 #[.pointer (some ⟨p, 0, none⟩)] w fun e w' => e = .returned (.int .i64 z) ∧ w' = w := by
  have c0 := h.c2
  go_enter Try.func15, Try.ntmps15
  go_wp2_with fail
  go_ret
  exact ⟨rfl, rfl⟩

theorem look_none (k o : Int) (s : ByteArray) (hk : KOk k o s) (w : World) : (Instr.lookup 45 (.map none) (.agg #[.int .u8 k, .int .i64 o, .string s]) false).run Try.prog w = .ok (.int .i64 0) w := by
  obtain ⟨l, hl⟩ := keyOf_kv hk
  have hz : (zeroValue 3).run Try.prog w = .ok (.int .i64 0) w := by kernel_rfl
  have hc := keyed.check w true hl
  rcases keyed.find w hl [] (by simp) with ⟨hf, _⟩ | ⟨j, e, hf, hj, he⟩
  · unfold kv at hc hf
    simp [Instr.lookup, run_underlying Try.underlying45, hc, hf, hz, Result.andThen]
  · simp at hj

theorem bare14 (base p clk : Nat) (vw : Value) (F : List Fr) (m : Option Nat) (L : List En) (z : Int) (k o : Int) (s : ByteArray) (w : World) (h : Bt w base p vw F m L clk z) (hk : KOk k o s) :
    Calls Try.prog 14 #[.pointer (some ⟨p, 0, none⟩), .int .u8 k, .int .i64 o, .string s] w fun e w' => e = .returned (.int .i64 (cnt L k o s)) ∧ w' = w := by
  have c0 := h.c1
  cases m with
  | none =>
    have hl := look_none k o s hk w
    obtain rfl := h.mno rfl
    go_enter Try.func14, Try.ntmps14
    go_wp2_with fail
    go_ret
    exact ⟨rfl, rfl⟩
  | some b =>
    have hl := (h.mso b rfl).2.look hk
    unfold kv at hl
    go_enter Try.func14, Try.ntmps14
    go_wp2_with fail
    go_ret
    exact ⟨rfl, rfl⟩

theorem empty26 (base p clk : Nat) (vw : Value) (F : List Fr) (m : Option Nat) (L : List En) (z : Int) (w : World) (h : Bt w base p vw F m L clk z) :
    Calls Try.prog 26 #[.pointer (some ⟨p, 0, none⟩)] w fun e w' => e = .returned (.bool (decide (F = [] ∧ L = []))) ∧ w' = w := by
  have c0 := h.c0
  have c1 := h.c1
  obtain ⟨v0, v2, rfl⟩ : ∃ a c, vw = .slice a F.length c := by
    rcases h.row.2 with ⟨h0, h1⟩ | ⟨g', c', _, h0, _⟩
    · exact ⟨_, _, by rw [h0, h1]⟩
    · exact ⟨_, _, h0⟩
  by_cases hF : F = []
  · subst hF
    cases m with
    | none =>
      obtain rfl := h.mno rfl
      go_enter Try.func26, Try.ntmps26
      go_wp2_with fail
      go_ret
      exact ⟨rfl, rfl⟩
    | some b =>
      have hb := (h.mso b rfl).2.len 3
      go_enter Try.func26, Try.ntmps26
      go_wp2_with fail
      go_ret
      refine ⟨?_, rfl⟩
      cases L <;> simp
      omega
  · have hl : ((F.length : Int) == 0) = false := by
      rw [beq_eq_false_iff_ne]
      intro e
      exact hF (List.length_eq_zero_iff.1 (by omega))
    go_enter Try.func26, Try.ntmps26
    go_wp2_with fail
    go_ret
    refine ⟨?_, rfl⟩
    simp [hF]

theorem new8 (w : World) (base : Nat) (hb : base ≤ w.heap.size) : Calls Try.prog 8 #[] w fun e w' => e = .returned (.pointer (some ⟨w.heap.size, 0, none⟩)) ∧ Bt w' base w.heap.size (.slice none 0 0) [] none [] 0 0 ∧ Below w.heap.size w w' ∧ w'.heap.size = w.heap.size + 1 := by
  go_enter Try.func8, Try.ntmps8
  go_wp2_with fail
  go_ret
  refine ⟨rfl, ⟨?_, hb, ⟨rfl, .inl ⟨rfl, rfl⟩⟩, fun _ => rfl, fun b e => by cases e⟩, (Below.refl _ _).alloc (Nat.le_refl _) _, by simp⟩
  exact Array.getElem?_push_size

end Go.Proofs.Qxb6609323a
