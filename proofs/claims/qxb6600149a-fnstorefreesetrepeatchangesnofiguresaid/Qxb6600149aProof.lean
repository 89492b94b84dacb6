/-
  THE ROW: the frame as the kit's proof-skeleton writes it for this program; the walk: Qxb6600149aLaw.
-/
import Derived.Test.Qxb6600149aLaw
import Derived.Test.Qxb6600149aFacts
import Derived.Test.Qxb6600149aRows
import Derived.WalkKit
import Derived.ProofKit
import Derived.OpenShut
import Derived.ShutString
import Derived.ChangeOld
import Derived.Below
namespace Go.Proofs.Qxb6600149a.fnStoreFreeSetRepeatChangesNoFigure
open Go.ChangeShapes Go.WideShapes Go.ChangeAt Go.RowKit
open Go.ChangeMaps (open_string shut_string)
set_option linter.unusedVariables false

theorem own : ownKnob Try.prog.godebug = none := by kernel_rfl
theorem laidOut : laidOutB Try.prog = true := by kernel_rfl

/-- WHAT THE WALK IS TOLD OF A SLICE OF INTEGERS THAT CAME IN: it is nil; or it leads to a row of 'cap' cells, the numbers 'zs' (the first 'len' are its elements, the rest its spare room), each fitting its kind. -/
def IsRow (k : IntKind) (w : World) (a : Option Addr) (len cap : Nat) (zs : List Int) : Prop :=
  (a = none ∧ len = 0 ∧ cap = 0 ∧ zs = []) ∨
  ∃ x, a = some x ∧ len ≤ cap ∧ cap ≤ maxLen ∧ zs.length = cap ∧ (∀ i, i < zs.length → w.cell? (x.add i) = some (.int k (zs.getD i 0))) ∧ ∀ n ∈ zs, (Lit.int k n).wf = true

theorem u32_nonneg {n : Int} (h : (Lit.int .u32 n).wf = true) : 0 ≤ n := by
  simp only [Lit.wf, Bool.and_eq_true, decide_eq_true_eq] at h
  have : IntKind.u32.min = 0 := by rfl
  omega
theorem row_reads {k : IntKind} {w : World} {x : Addr} {len cap : Nat} {zs : List Int} (h1 : len ≤ cap) (h3 : zs.length = cap) (h4 : ∀ i, i < zs.length → w.cell? (x.add i) = some (.int k (zs.getD i 0))) : Reads k w (.slice (some x) len cap) (zs.take len) := by
  have hl : (zs.take len).length = len := by simp; omega
  refine ⟨some x, cap, by rw [hl], ?_, ?_⟩
  · by_cases hz : 0 < len
    · right
      have h0 := h4 0 (by omega)
      obtain ⟨b, off, sp⟩ := x
      cases sp with
      | none => exact ⟨b, off, rfl⟩
      | some q =>
        simp only [World.cell?, Addr.add, if_pos] at h0
        split at h0 <;> simp at h0
    · left
      have : len = 0 := by omega
      subst this
      rfl
  · intro b off e i hi
    cases e
    have h0 := h4 i (by omega)
    have e1 : (⟨b, off, none⟩ : Addr).add i = ⟨b, off + i, none⟩ := by
      unfold Addr.add
      split
      · rename_i hi0; subst hi0; rfl
      · rfl
    rw [e1] at h0
    rw [h0]
    have : i < len := by omega
    simp [List.getD, this]

theorem IsRow.reads {k : IntKind} {w : World} {a : Option Addr} {len cap : Nat} {zs : List Int} (h : IsRow k w a len cap zs) : len ≤ maxLen ∧ (zs.take len).length = len ∧ Reads k w (.slice a len cap) (zs.take len) ∧ ∀ n ∈ zs, (Lit.int k n).wf = true := by
  rcases h with ⟨rfl, rfl, rfl, rfl⟩ | ⟨x, rfl, h1, h2, h3, h4, h5⟩
  · exact ⟨Nat.zero_le _, rfl, ⟨none, 0, rfl, .inl rfl, fun b off e => by cases e⟩, fun n hn => by cases hn⟩
  · have hl : (zs.take len).length = len := by simp; omega
    exact ⟨by omega, hl, row_reads h1 h3 h4, h5⟩

theorem walk (a0 : Option Addr) (len0 cap0 : Nat) (z0 : List Int) (a1 : Option Addr) (len1 cap1 : Nat) (z1 : List Int) (a2 : Int) (a3 : Int) (w : World) (w0 : IsRow .u32 w a0 len0 cap0 z0) (w1 : IsRow .i16 w a1 len1 cap1 z1) (w2 : (Lit.int .u32 a2).wf = true) (w3 : (Lit.int .i16 a3).wf = true) :
    Calls Try.prog 8 #[.slice a0 len0 cap0, .slice a1 len1 cap1, .int .u32 a2, .int .i16 a3] w fun e w' => e = .returned (.bool true) ∧ Below w.heap.size w w' := by
  obtain ⟨m0, e0, r0, f0⟩ := w0.reads
  obtain ⟨m1, e1, r1, f1⟩ := w1.reads
  refine law8 _ _ _ _ a2 a3 w r0 r1 (by omega) (by omega) (fun i hi => ?_) (u32_nonneg w2)
  have hm : (z0.take len0).getD i 0 ∈ z0 := by
    have : (z0.take len0).getD i 0 = (z0.take len0)[i]'hi := by rw [List.getD_eq_getElem?_getD, List.getElem?_eq_getElem hi]; rfl
    rw [this]
    exact List.mem_of_mem_take (List.getElem_mem hi)
  exact u32_nonneg (f0 _ hm)

/-! ### THE ROW's STEP: WRITTEN OUT: LEAVE IT -/
set_option maxRecDepth 100000 in
theorem lifted (os : Os) (started : os.Started) (H : Type) (enc : TypeId × Value → H) :
    ReturnsInHanded {} Try.checked os 8 .any (Rows.fnStoreFreeSetRepeatChangesNoFigureSpec.pre6 enc Try.prog Try.f8 Rows.fnStoreFreeSetRepeatChangesNoFigureRow.domain false) (Rows.fnStoreFreeSetRepeatChangesNoFigureSpec.post enc Try.prog Try.f8 false true false false) := by
  refine returnsInHanded_of_change (C := Try.checked) own started (by kernel_rfl) Try.func8
    (ChangeSpec.witness6 (enc := enc) (C := Try.checked) false ⟨#[], #[.slice none 0 0, .slice none 0 0, .int .u32 0, .int .i16 0], []⟩ 8 (by kernel_rfl) (by kernel_rfl) (by kernel_rfl) (by kernel_rfl)) ?_
  intro W base args ds gs before hval0 hW hcnd _
  have hval : ∀ (j : Nat) t v, Try.f8.params[j]? = some t → args[j]? = some v → Value.okWide Try.prog W .any base t v := hval0
  have hW' := hW
  obtain ⟨p, q, hA0, hV, rfl, hfz, hnd⟩ := hW
  have hA : DataW.TrodAll enc Try.prog W 0 (fun _ => true) true Try.f8.params.toList args.toList ds p := hA0
  rw [Try.params8] at hA hval
  obtain ⟨v0, vs0, d0, ds0, p0, q0, hargs, rfl, rfl, h0, r0⟩ := trodAll_cons hA
  obtain ⟨v1, vs1, d1, ds1, p1, q1, rfl, rfl, rfl, h1, r1⟩ := trodAll_cons r0
  obtain ⟨v2, vs2, d2, ds2, p2, q2, rfl, rfl, rfl, h2, r2⟩ := trodAll_cons r1
  obtain ⟨v3, vs3, d3, ds3, p3, q3, rfl, rfl, rfl, h3, r3⟩ := trodAll_cons r2
  obtain ⟨rfl, rfl, rfl⟩ := trodAll_nil r3
  obtain rfl : args = #[v0, v1, v2, v3] := by cases args; simp_all
  obtain ⟨rfl, rfl⟩ := trodVars_none hV
  obtain ⟨a0, len0, cap0, rfl⟩ := okWide_slice Try.underlying31 (hval 0 31 v0 rfl rfl)
  have k0 := h0
  have lt0 : ∀ x ∈ p0, x.block < W.heap.size := by obtain ⟨m, hm⟩ := k0; exact DataW.trod_lt m _ _ _ hm
  obtain ⟨z0, w0⟩ : ∃ zs, IsRow .u32 W a0 len0 cap0 zs := by
    obtain ⟨fuel, hf⟩ := h0
    rcases open_ints Try.underlying31 Try.underlying43 (by kernel_rfl) hf with ⟨hcs, _⟩ | ⟨x, l, c, zs, hcs, _, hl, hm, hz, _, hcell, hwz⟩
    · simp [Value.cells] at hcs
      obtain ⟨rfl, rfl, rfl⟩ := hcs
      exact ⟨[], .inl ⟨rfl, rfl, rfl, rfl⟩⟩
    · simp [Value.cells] at hcs
      obtain ⟨rfl, rfl, rfl⟩ := hcs
      exact ⟨zs, .inr ⟨_, rfl, hl, hm, by simpa using hz, hcell, hwz⟩⟩
  obtain ⟨a1, len1, cap1, rfl⟩ := okWide_slice Try.underlying32 (hval 1 32 v1 rfl rfl)
  have k1 := h1
  have lt1 : ∀ x ∈ p1, x.block < W.heap.size := by obtain ⟨m, hm⟩ := k1; exact DataW.trod_lt m _ _ _ hm
  obtain ⟨z1, w1⟩ : ∃ zs, IsRow .i16 W a1 len1 cap1 zs := by
    obtain ⟨fuel, hf⟩ := h1
    rcases open_ints Try.underlying32 Try.underlying44 (by kernel_rfl) hf with ⟨hcs, _⟩ | ⟨x, l, c, zs, hcs, _, hl, hm, hz, _, hcell, hwz⟩
    · simp [Value.cells] at hcs
      obtain ⟨rfl, rfl, rfl⟩ := hcs
      exact ⟨[], .inl ⟨rfl, rfl, rfl, rfl⟩⟩
    · simp [Value.cells] at hcs
      obtain ⟨rfl, rfl, rfl⟩ := hcs
      exact ⟨zs, .inr ⟨_, rfl, hl, hm, by simpa using hz, hcell, hwz⟩⟩
  obtain ⟨a2, rfl, rfl, rfl, w2⟩ := open_int Try.underlying43 (hval 2 43 v2 rfl rfl) h2
  obtain ⟨a3, rfl, rfl, rfl, w3⟩ := open_int Try.underlying44 (hval 3 44 v3 rfl rfl) h3
  clear hA0 hval0
  refine (walk a0 len0 cap0 z0 a1 len1 cap1 z1 a2 a3 W w0 w1 w2 w3).mono fun e W' ⟨he, bel⟩ => ?_
  subst he
  exact ⟨_, rfl, _, _, _, [], _, [], hW', trodAll_mk1 (shut_bool Try.underlying4 _), (trodAll_cons_mk (Below.trod laidOut (by kernel_rfl) (of_decide_eq_true (by kernel_rfl)) k0 bel lt0) (trodAll_cons_mk (Below.trod laidOut (by kernel_rfl) (of_decide_eq_true (by kernel_rfl)) k1 bel lt1) (trodAll_cons_mk (shut_int Try.underlying43 w2) (trodAll_cons_mk (shut_int Try.underlying44 w3) trodAll_mk0)))), rfl, bel.frame _, fun h => by cases h⟩

theorem func_named : Try.pinned.checked.prog.funcNamed Rows.fnStoreFreeSetRepeatChangesNoFigureRow.func = some 8 := by kernel_rfl
theorem inst_ok : Try.f8.isInstance Try.pinned.checked.prog Rows.fnStoreFreeSetRepeatChangesNoFigureRow.origin Rows.fnStoreFreeSetRepeatChangesNoFigureRow.targs := of_decide_eq_true (by kernel_rfl)

theorem over : Rows.fnStoreFreeSetRepeatChangesNoFigureRow.holds Try.pinned (OpenSpec.ofChange Rows.fnStoreFreeSetRepeatChangesNoFigureSpec) :=
  OpenClaim.holds_of_wide 8 Try.f8 rfl rfl rfl rfl rfl rfl rfl ⟨rfl, rfl, rfl, rfl, rfl⟩ rfl rfl rfl rfl rfl func_named Try.func8 closed
    inst_ok (by unfold Func.isWrapper; first | (rw [if_pos (by decide +kernel)]; kernel_rfl) | (rw [if_neg (by decide +kernel)]; exact ⟨rfl, rfl⟩))
    (fun os started H enc _ => lifted os started H enc)

/-- ████ THE STATEMENT ████ -/
theorem proved : Rows.FnStoreFreeSetRepeatChangesNoFigureSaid := over
end Go.Proofs.Qxb6600149a.fnStoreFreeSetRepeatChangesNoFigure
