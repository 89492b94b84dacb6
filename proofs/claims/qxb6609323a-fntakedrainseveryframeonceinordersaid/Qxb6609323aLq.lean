import Derived.Test.Qxb6609323aLp
namespace Go.Proofs.Qxb6609323a
open Go.RowKit Go.Maps Go.WideElems
open Go.ChangeMaps (setBlock modify_eq_set)
set_option linter.unusedVariables false

def vlen : Value → Nat
  | .slice _ n _ => n
  | _ => 0
def Fr.sz (f : Fr) : Nat := fsz f.k f.o f.s.size (vlen f.v)
def fsum (F : List Fr) : Int := (F.map fun f => (f.sz : Int)).sum
theorem fsum_nil : fsum [] = 0 := rfl
theorem fsum_append (F G : List Fr) : fsum (F ++ G) = fsum F + fsum G := by simp [fsum]
theorem fsum_cons (f : Fr) (F : List Fr) : fsum (f :: F) = (f.sz : Int) + fsum F := by simp [fsum]
theorem fsum_nonneg (F : List Fr) : 0 ≤ fsum F := by
  induction F with
  | nil => exact Int.le_refl 0
  | cons f r ih => rw [fsum_cons]; omega
theorem fsum_take (F : List Fr) (i : Nat) : fsum (F.take i) ≤ fsum F := by
  have h : F.take i ++ F.drop i = F := List.take_append_drop i F
  have h1 := fsum_append (F.take i) (F.drop i)
  rw [h] at h1
  have := fsum_nonneg (F.drop i)
  omega
theorem take_snoc {F : List Fr} {i : Nat} {f : Fr} (h : F[i]? = some f) : F.take (i + 1) = F.take i ++ [f] := by
  rw [List.take_add_one, h]
  rfl
theorem fsum_snoc {F : List Fr} {i : Nat} {f : Fr} (h : F[i]? = some f) : fsum (F.take (i + 1)) = fsum (F.take i) + (f.sz : Int) := by
  rw [take_snoc h, fsum_append, fsum_cons, fsum_nil]
  omega

/-- what a WRITE of a batch is -/
structure FOk (f : Fr) : Prop where
  k : f.k = 0 ∨ f.k = 1
  s : f.s.size ≤ 1048576
  v : ∃ va vl vc, f.v = .slice va vl vc ∧ vl ≤ 1048576

/-- the batch b takes WRITEs out of w -/
structure Lq (W0 wr : World) (base pb pw : Nat) (vw : Value) (F : List Fr) (m : Option Nat) (clk : Nat) (z0 room : Int) (mb : Option Nat) (Lb : List En) (cb : Nat) (Lw : List En) (i : Nat) (vb : Value) : Prop where
  b : Bt wr base pb vb (F.take i) mb Lb cb (fsum (F.take i) + Wt szk Lb)
  w : Bt wr base pw vw F m Lw clk (z0 - (fsum (F.take i) + Wt szk Lb))
  vb' : ∀ g, vb.ownBlock = some g → W0.heap.size ≤ g
  mb' : ∀ x, mb = some x → W0.heap.size ≤ x
  fit : fsum (F.take i) + Wt szk Lb ≤ room ∨ (Lb = [] ∧ i ≤ 1)
  keep : Keep (fun k => k = pb ∨ Bo pw vw m k) W0 wr

section
variable {W0 wr w' : World} {base pb pw clk cb i : Nat} {vw vb : Value} {F : List Fr} {m mb : Option Nat} {L0 Lb Lw : List En} {z0 room : Int}

theorem Lp.lq (h : Lp W0 wr base pb pw vw F m L0 clk z0 room mb Lb cb Lw) : Lq W0 wr base pb pw vw F m clk z0 room mb Lb cb Lw 0 (.slice none 0 0) := by
  have e : fsum (F.take 0) + Wt szk Lb = Wt szk Lb := by rw [List.take_zero, fsum_nil]; omega
  refine ⟨?_, ?_, (fun g e => by cases e), h.mb', ?_, h.keep⟩
  · rw [e]; exact h.b
  · rw [e]; exact h.w
  · rw [e]
    rcases h.fit with h1 | h1
    · exact .inr ⟨h1, by omega⟩
    · exact .inl h1

theorem Lq.later (h : Lq W0 wr base pb pw vw F m clk z0 room mb Lb cb Lw i vb) (hb : Below wr.heap.size wr w') : Lq W0 w' base pb pw vw F m clk z0 room mb Lb cb Lw i vb :=
  ⟨h.b.later hb, h.w.later hb, h.vb', h.mb', h.fit, h.keep.trans (Y := fun _ => False) (Keep.of_below hb) (fun _ _ e => e.elim)⟩

theorem Lq.step {w2 : World} {f : Fr} {vb2 : Value} (h : Lq W0 wr base pb pw vw F m clk z0 room mb Lb cb Lw i vb) (hpb : pb < W0.heap.size) (hpw : ∀ j, Bo pw vw m j → j < W0.heap.size) (hd : ¬ Bo pw vw m pb) (hi : F[i]? = some f)
    (hfit : fsum (F.take i) + Wt szk Lb + (f.sz : Int) ≤ room ∨ (F.take i = [] ∧ Lb = [])) (hB2 : Bt w2 base pb vb2 (F.take i ++ [f]) mb Lb cb (fsum (F.take i) + Wt szk Lb + (f.sz : Int)))
    (hl : vb2.ownBlock = vb.ownBlock ∨ ∃ g, vb2.ownBlock = some g ∧ wr.heap.size ≤ g) (hK : Keep (Bo pb vb mb) wr w2) :
    Bt w2 base pw vw F m Lw clk (z0 - (fsum (F.take i) + Wt szk Lb)) ∧ Lq W0 (w2.setCell ⟨pw, 2, none⟩ (.int .i64 (z0 - (fsum (F.take i) + Wt szk Lb) - (f.sz : Int)))) base pb pw vw F m clk z0 room mb Lb cb Lw (i + 1) vb2 := by
  have hX : ∀ j, Bo pw vw m j → ¬ Bo pb vb mb j := by
    rintro j hj (e | e | e)
    · exact hd (e ▸ hj)
    · have := h.vb' j e
      have := hpw j hj
      omega
    · have := h.mb' j e
      have := hpw j hj
      omega
  have hw2 := h.w.keep hK hX
  have hvb : ∀ g, vb2.ownBlock = some g → W0.heap.size ≤ g := by
    intro g e
    rcases hl with h1 | ⟨g', h1, h2⟩
    · exact h.vb' g (h1 ▸ e)
    · rw [h1] at e
      cases e
      exact Nat.le_trans h.keep.size h2
  have hs : fsum (F.take (i + 1)) + Wt szk Lb = fsum (F.take i) + Wt szk Lb + (f.sz : Int) := by rw [fsum_snoc hi]; omega
  refine ⟨hw2, ?_, ?_, hvb, h.mb', ?_, ?_⟩
  · rw [hs, take_snoc hi]
    refine hB2.same (fun j hj => Below.heap_setCell _ _ _ _ ?_)
    show j ≠ pw
    rintro rfl
    have hlt := hpw j (.inl rfl)
    rcases hj with e | e | e
    · exact hd (e ▸ .inl rfl)
    · have := hvb j e; omega
    · have := h.mb' j e; omega
  · rw [hs]
    have := hw2.setSize (z0 - (fsum (F.take i) + Wt szk Lb) - (f.sz : Int))
    have e2 : z0 - (fsum (F.take i) + Wt szk Lb + (f.sz : Int)) = z0 - (fsum (F.take i) + Wt szk Lb) - (f.sz : Int) := by omega
    rw [e2]
    exact this
  · rw [hs]
    rcases hfit with h1 | ⟨h1, h2⟩
    · exact .inl h1
    · refine .inr ⟨h2, ?_⟩
      have hlt : i < F.length := (List.getElem?_eq_some_iff.1 hi).1
      have h3 := congrArg List.length h1
      rw [List.length_take, List.length_nil] at h3
      omega
  · refine Keep.setCell (h.keep.trans hK (fun j hj e => ?_)) (.inl (.inr (.inl rfl))) _
    rcases e with e | e | e
    · exact .inl e
    · have := h.vb' j e; omega
    · have := h.mb' j e; omega
end

end Go.Proofs.Qxb6609323a
