import Derived.Test.Qxb6609323aSt
namespace Go.Proofs.Qxb6609323a
open Go.RowKit Go.Maps Go.WideElems
set_option linter.unusedVariables false

theorem Bt.set3' {w : World} {base p clk g k : Nat} {vw : Value} {F : List Fr} {m : Option Nat} {L : List En} {z : Int} (h : Bt w base p vw F m L clk z) {c : Array Value} (hg : w.heap[g]? = some (.cells c 3 (0, 0))) (u : Value) : Bt (w.setCell ⟨g, k, none⟩ u) base p vw F m L clk z := by
  refine h.same (fun j hj => Below.heap_setCell _ _ _ _ (fun e => ?_))
  have e2 : j = g := e
  subst e2
  rcases hj with e | e | e
  · rw [e, h.st] at hg
    injection hg with hg
    injection hg with _ hg _
    exact absurd hg (by decide)
  · obtain ⟨cur, h4⟩ := own_row h.row e
    rw [h4] at hg
    injection hg with hg
    injection hg with _ hg _
    exact absurd hg (by decide)
  · rw [(h.mso j e).2.blk] at hg; cases hg

/-- while the keys are gone through -/
structure S6 (w5 wr : World) (pb : Nat) (vb : Value) (F1 : List Fr) (mb : Option Nat) (Lb : List En) (cb : Nat) (vw' : Value) (F2 : List Fr) (m' : Option Nat) (Lw' : List En) (clk' : Nat) (K : List (Ky × Int)) (Lw : List En) (tkb k : Nat) : Prop where
  b : Bt wr w5.heap.size pb vb F1 mb Lb cb (fsum F1 + Wt szk Lb)
  ww : Bt wr w5.heap.size w5.heap.size vw' F2 m' Lw' clk' (fsum F2 + Wt szk Lw')
  tk : wr.ownsRow w5.heap.size 3 1 (.slice (some ⟨tkb, 0, none⟩) K.length K.length) K.length (tkr K Lw Lw' k)
  below : Below w5.heap.size w5 wr

section
variable {w5 wr w' : World} {pb cb clk' tkb k : Nat} {vb vw' : Value} {F1 F2 : List Fr} {mb m' : Option Nat} {Lb Lw' Lw : List En} {K : List (Ky × Int)}

theorem S6.later (h : S6 w5 wr pb vb F1 mb Lb cb vw' F2 m' Lw' clk' K Lw tkb k) (hb : Below wr.heap.size wr w') : S6 w5 w' pb vb F1 mb Lb cb vw' F2 m' Lw' clk' K Lw tkb k :=
  ⟨h.b.later hb, h.ww.later hb, own4_of_block h.tk (fun g e => hb.block g (h.tk.lt g e).2), h.below.trans (hb.mono h.below.size)⟩

theorem S6.drewN (h : S6 w5 wr pb vb F1 mb Lb cb vw' F2 m' Lw' clk' K Lw tkb k) (n : Nat) : S6 w5 (wr.drewN n) pb vb F1 mb Lb cb vw' F2 m' Lw' clk' K Lw tkb k := h.later (Below.drewN' n (Below.refl _ _))

theorem S6.set (h : S6 w5 wr pb vb F1 mb Lb cb vw' F2 m' Lw' clk' K Lw tkb k) {e : Ky × Int} (he : K[k]? = some e) : S6 w5 (wr.setCell ⟨tkb, k, none⟩ (.int .i64 (e.2 - cq Lw' e.1))) pb vb F1 mb Lb cb vw' F2 m' Lw' clk' K Lw tkb (k + 1) := by
  obtain ⟨hge, ⟨cur, h1, _⟩, _⟩ := own1_cells h.tk
  have hlt := (List.getElem?_eq_some_iff.1 he).1
  refine ⟨h.b.set3' h1 _, h.ww.set3' h1 _, ?_, h.below.setCell hge _⟩
  have := own1_set h.tk (k := k) hlt (.int .i64 (e.2 - cq Lw' e.1))
  rw [tkr_set he] at this
  exact this
end

def gz (Lb : List En) (q : Ky) : Int := cq Lb q * szk q
def gk (Lb : List En) (q : Ky) : Int := if 0 < cq Lb q then 1 else 0
theorem gz0 {Lb : List En} (hp : Pos Lb) (q : Ky) : 0 ≤ gz Lb q := Int.mul_nonneg (cq_pos hp q) (by have := szk_pos q; omega)
theorem gk0 (Lb : List En) (q : Ky) : 0 ≤ gk Lb q := by unfold gk; split <;> omega
theorem gk1 (Lb : List En) (q : Ky) : gk Lb q ≤ 1 := by unfold gk; split <;> omega

theorem St.of_six {w5 wr : World} {T : List Fr} {K : List (Ky × Int)} {tkb pb : Nat} {room : Int} {nx rd : Nat} {vb vw' : Value} {F1 F2 : List Fr} {mb m' : Option Nat} {Lb Lw Lw' : List En} {cb clk' : Nat} (h : S6 w5 wr pb vb F1 mb Lb cb vw' F2 m' Lw' clk' K Lw tkb K.length)
    (hd : (wrt T).drop nx = F2) (hnx : nx ≤ (wrt T).length) (hp : Pos Lw') (hnm : ∀ e ∈ Lw', e.s.size ≤ 1048576 ∧ szk e.kk < room) (hc : ∀ q, cq Lw' q ≤ bc T q) (hct : (rd : Int) + (F2.length : Int) + Wt (fun _ => 1) Lw' ≤ (T.length : Int)) (htot : fsum F2 + Wt szk Lw' ≤ 1048576) : St w5 wr T K tkb room nx rd vw' m' Lw' clk' := by
  refine ⟨by rw [hd]; exact h.ww, hnx, hp, hnm, hc, ?_, by rw [hd]; exact hct, by rw [hd]; exact htot, h.below⟩
  have := h.tk
  rw [tkr_full] at this
  exact this

end Go.Proofs.Qxb6609323a
