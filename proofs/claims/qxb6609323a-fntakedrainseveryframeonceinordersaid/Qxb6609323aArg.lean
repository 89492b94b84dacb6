import Derived.Test.Qxb6609323aTk
namespace Go.Proofs.Qxb6609323a
open Go.RowKit Go.Maps Go.WideElems
set_option linter.unusedVariables false

theorem cell_lt {w : World} {a : Addr} {v : Value} (h : w.cell? a = some v) : a.block < w.heap.size := by
  simp only [World.cell?] at h
  by_cases hc : a.block < w.heap.size
  · exact hc
  · rw [Array.getElem?_eq_none (by omega)] at h; simp at h

/-- a frame's four cells, as TakeFrame has them -/
def FAt (w : World) (g o : Nat) (f : Fr) : Prop :=
  w.cell? ⟨g, o, none⟩ = some (.int .u8 f.k) ∧ w.cell? ⟨g, o + 1, none⟩ = some (.int .i64 f.o) ∧ w.cell? ⟨g, o + 2, none⟩ = some (.string f.s) ∧ w.cell? ⟨g, o + 3, none⟩ = some f.v

/-- v reads as the frames T -/
def Fs (w : World) (v : Value) (T : List Fr) : Prop :=
  (∃ a c, v = .slice a T.length c ∧ (a = none → T = [])) ∧ (0 < T.length → ∃ g off c, v = .slice (some ⟨g, off, none⟩) T.length c ∧ ∀ i f, T[i]? = some f → FAt w g (off + i * 4) f)

/-- the bytes of a value that came in -/
def Vr (w : World) (va : Option Addr) (vl : Nat) : Prop := 0 < vl → ∃ g off, va = some ⟨g, off, none⟩ ∧ ∀ i, i < vl → ∃ x, w.cell? ⟨g, off + i, none⟩ = some (.int .u8 x)

structure AOk (w : World) (f : Fr) : Prop where
  ok : KOk f.k f.o f.s
  v : ∃ va vl vc, f.v = .slice va vl vc ∧ vl ≤ maxLen ∧ Vr w va vl

theorem FAt.later {w w' : World} {g o : Nat} {f : Fr} (h : FAt w g o f) (hb : Below w.heap.size w w') : FAt w' g o f := by
  obtain ⟨h0, h1, h2, h3⟩ := h
  exact ⟨(hb.cell (cell_lt h0)).trans h0, (hb.cell (cell_lt h1)).trans h1, (hb.cell (cell_lt h2)).trans h2, (hb.cell (cell_lt h3)).trans h3⟩

theorem Fs.later {w w' : World} {v : Value} {T : List Fr} (h : Fs w v T) (hb : Below w.heap.size w w') : Fs w' v T := by
  refine ⟨h.1, fun hl => ?_⟩
  obtain ⟨g, off, c, h1, h2⟩ := h.2 hl
  exact ⟨g, off, c, h1, fun i f hf => (h2 i f hf).later hb⟩

theorem Vr.later {w w' : World} {va : Option Addr} {vl : Nat} (h : Vr w va vl) (hb : Below w.heap.size w w') : Vr w' va vl := by
  intro hl
  obtain ⟨g, off, h1, h2⟩ := h hl
  refine ⟨g, off, h1, fun i hi => ?_⟩
  obtain ⟨x, hx⟩ := h2 i hi
  exact ⟨x, (hb.cell (cell_lt hx)).trans hx⟩

theorem AOk.later {w w' : World} {f : Fr} (h : AOk w f) (hb : Below w.heap.size w w') : AOk w' f := by
  obtain ⟨va, vl, vc, h1, h2, h3⟩ := h.v
  exact ⟨h.ok, va, vl, vc, h1, h2, h3.later hb⟩

set_option maxRecDepth 100000 in
set_option maxHeartbeats 4000000 in
theorem bytes4 (v : Value) (T : List Fr) (room : Int) (w : World) (h : Fs w v T) (ha : ∀ f ∈ T, AOk w f) (hl : T.length ≤ maxLen) :
    Calls Try.prog 4 #[v, .int .i64 room] w fun e w' => ∃ b, e = .returned (.bool b) ∧ w' = w := by
  obtain ⟨⟨a, c, rfl, _⟩, h2⟩ := h
  unfold maxLen at hl
  by_cases hbig : 1048576 < T.length
  · have hd : decide ((1048576 : Int) < (T.length : Int)) = true := decide_eq_true (by omega)
    go_enter Try.func4, Try.ntmps4
    go_wp2_with fail
    all_goals (first | (go_ret; exact ⟨_, rfl, rfl⟩) | skip)
  · have hd : decide ((1048576 : Int) < (T.length : Int)) = false := decide_eq_false (by omega)
    have hw0 : IntKind.i64.wrap (T.length : Int) = (T.length : Int) := wrap_small _ (by omega) (by omega)
    go_enter Try.func4, Try.ntmps4
    go_wp2_with fail
    go_loopw [5, 6] (fun vx vi wr => ∃ (i : Nat) (x : Int), vi = .int .i64 (i : Int) ∧ vx = .int .i64 x ∧ i ≤ T.length ∧ wr = w) (fun _ vi _ => T.length - (intOf vi).toNat)
    case atStart => exact ⟨0, _, rfl, rfl, Nat.zero_le _, rfl⟩
    case round =>
      obtain ⟨i, x, rfl, rfl, hi, rfl⟩ := hrel
      by_cases hlt : i < T.length
      · obtain ⟨g, off, c', hv, hc⟩ := h2 (by omega)
        cases hv
        obtain ⟨f, hf⟩ : ∃ f, T[i]? = some f := ⟨_, List.getElem?_eq_getElem hlt⟩
        obtain ⟨q0, q1, q2, q3⟩ := hc i f hf
        obtain ⟨va, vl, vc, hfv, hvl, _⟩ := (ha f (List.mem_of_getElem? hf)).v
        rw [hfv] at q3
        clear hc h2 ha
        go_wp2_with fail
        all_goals (first | (go_ret; exact ⟨_, rfl, rfl⟩) | (refine ⟨⟨i + 1, _, by go_num, rfl, by omega, trivial⟩, ?_⟩; simp [intOf]; omega))
      · go_wp2_with fail
        go_ret
        exact ⟨_, rfl, rfl⟩

end Go.Proofs.Qxb6609323a
