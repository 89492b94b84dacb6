import Derived.Test.Qxb6609323aArg
import Derived.OpenShut
import Derived.ShutString
import Derived.ChangeOld
import Derived.Deep.Slices
import Derived.ChangeSame
namespace Go.Proofs.Qxb6609323a
open Go.RowKit Go.ChangeShapes Go.WideShapes Go.ChangeAt
set_option linter.unusedVariables false

theorem cellsOf26 : Try.prog.cellsOf 26 = 4 := by kernel_rfl
theorem cellsOf24 : Try.prog.cellsOf 24 = 1 := by kernel_rfl
theorem cellsOf5 : Try.prog.cellsOf 5 = 1 := by kernel_rfl

instance : Inhabited Fr := ⟨⟨0, 0, ByteArray.empty, .slice none 0 0⟩⟩

section
variable {H : Type} {enc : TypeId × Value → H} {w : World} {base : Nat} {spare : Nat → Bool} {held : Bool}

theorem open_bytes {fuel : Nat} {v : Value} {x : DataW H × List MemPlace} (h : DataW.trod enc Try.prog w base spare held fuel 24 [v] = some x) : ∃ va vl vc, v = .slice va vl vc ∧ vl ≤ maxLen ∧ Vr w va vl := by
  rcases open_ints Try.underlying24 Try.underlying5 cellsOf5 h with ⟨hcs, _⟩ | ⟨a, l, c, zs, hcs, _, hl, hm, hz, _, hcell, hwz⟩
  · simp at hcs
    exact ⟨none, 0, 0, hcs, Nat.zero_le _, fun h0 => by omega⟩
  · simp at hcs
    refine ⟨some a, l, c, hcs, by omega, fun h0 => ?_⟩
    have hzl : l ≤ zs.length := by rw [hz]; split <;> omega
    have h1 := hcell 0 (by omega)
    obtain ⟨b, off, sp⟩ := a
    cases sp with
    | some q =>
      simp only [World.cell?, Addr.add, if_pos] at h1
      split at h1 <;> simp at h1
    | none =>
      refine ⟨b, off, rfl, fun i hi => ?_⟩
      have h2 := hcell i (by omega)
      rw [Addr.add_lit] at h2
      exact ⟨_, h2⟩

/-- the argument: a slice of frames -/
theorem open_frames {fuel : Nat} {v : Value} {x : DataW H × List MemPlace} (h : DataW.trod enc Try.prog w base spare held fuel 22 [v] = some x) : ∃ T : List Fr, Fs w v T ∧ (∀ f ∈ T, AOk w f) ∧ T.length ≤ maxLen := by
  rcases Deep.open_slice Try.underlying22 h with ⟨hcs, _⟩ | ⟨a, len, cap, m, n, D, Pl, hcs, hb, hl, hm, hmm, _, hx⟩
  · simp at hcs
    refine ⟨[], ⟨⟨none, 0, hcs, fun _ => rfl⟩, fun h0 => by simp at h0⟩, (fun f hf => by cases hf), Nat.zero_le _⟩
  · simp at hcs
    have hlm : len ≤ m := by rw [hmm]; split <;> omega
    rw [cellsOf26] at hx
    have each : ∀ i, i < len → ∃ f : Fr, (∀ j u, j < 4 → [Value.int .u8 f.k, .int .i64 f.o, .string f.s, f.v][j]? = some u → w.cell? ((a.add (i * 4)).add j) = some u) ∧ AOk w f := by
      intro i hi
      obtain ⟨cs', h1, h2⟩ := hx i (by omega)
      obtain ⟨_, hlen, hcell⟩ := World.cells?_some h1
      obtain ⟨xs, k, hk, hxy, _, hxl, hf⟩ := DataW.trod_struct Try.underlying26 h2
      match cs', hlen with
      | [v0, v1, v2, v3], _ =>
        have g0 := hf 0 _ rfl
        have g1 := hf 1 _ rfl
        have g2 := hf 2 _ rfl
        have g3 := hf 3 _ rfl
        simp [cellsOf5, cells3, cells9, cellsOf24] at g0 g1 g2 g3
        match xs, hxl with
        | [y0, y1, y2, y3], _ =>
          obtain ⟨k0, e0, _, w0⟩ := DataW.trod_int Try.underlying5 g0
          obtain ⟨k1, e1, _, w1⟩ := DataW.trod_int Try.underlying3 g1
          obtain ⟨s2, e2, _, w2⟩ := DataW.trod_string Try.underlying9 g2
          obtain ⟨va, vl, vc, e3, w3, w4⟩ := open_bytes g3
          simp at e0 e1 e2
          subst e0 e1 e2 e3
          refine ⟨⟨k0, k1, s2, .slice va vl vc⟩, fun j u hj hu => ?_, ⟨⟨w0, w1, w2⟩, va, vl, vc, rfl, w3, w4⟩⟩
          rw [hcell j hj]
          exact hu
    obtain ⟨q, hq⟩ := Deep.choose_lt each
    refine ⟨(List.range len).map q, ?_, ?_, by simp; omega⟩
    · refine ⟨⟨some a, cap, by rw [hcs]; simp, fun e => by cases e⟩, fun h0 => ?_⟩
      simp at h0
      obtain ⟨b, off, sp⟩ := a
      cases sp with
      | some sq =>
        have h1 := (hq 0 h0).1 0 _ (by omega) rfl
        simp only [World.cell?, Addr.add, if_pos] at h1
        split at h1 <;> simp at h1
      | none =>
        refine ⟨b, off, cap, by rw [hcs]; simp, fun i f hf => ?_⟩
        have hi : i < len := by have := (List.getElem?_eq_some_iff.1 hf).1; simpa using this
        rw [List.getElem?_map, List.getElem?_range hi] at hf
        simp at hf
        subst hf
        have hc := (hq i hi).1
        simp only [Addr.add_lit] at hc
        exact ⟨hc 0 _ (by omega) rfl, hc 1 _ (by omega) rfl, hc 2 _ (by omega) rfl, hc 3 _ (by omega) rfl⟩
    · intro f hf
      obtain ⟨i, hi, rfl⟩ := List.mem_map.1 hf
      exact (hq i (List.mem_range.1 hi)).2
end

end Go.Proofs.Qxb6609323a
