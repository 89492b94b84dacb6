import Derived.Test.Qxb6609323aSwap
namespace Go.Proofs.Qxb6609323a
open Go.RowKit Go.Maps Go.WideElems
open Go.ChangeMaps (setBlock modify_eq_set)
set_option linter.unusedVariables false

def szk (q : Ky) : Int := (fsz q.1 q.2.1 q.2.2.size 0 : Nat)
theorem szk_pos (q : Ky) : 1 ≤ szk q := by have := fsz_pos q.1 q.2.1 q.2.2.size 0; unfold szk; omega

theorem Wt_nonneg {g : Ky → Int} (hg : ∀ q, 0 ≤ g q) {L : List En} (hp : Pos L) : 0 ≤ Wt g L := by
  induction L with
  | nil => exact Int.le_refl 0
  | cons e r ih =>
    rw [Wt_cons]
    have h1 := hp e (List.mem_cons_self ..)
    have h2 := ih (fun x hx => hp x (List.mem_cons_of_mem _ hx))
    have h3 : 0 ≤ g e.kk * e.c := Int.mul_nonneg (hg _) (by omega)
    omega

theorem mem_le {g : Ky → Int} (hg : ∀ q, 1 ≤ g q) {L : List En} (hp : Pos L) {e : En} (he : e ∈ L) : e.c ≤ Wt g L ∧ g e.kk * e.c ≤ Wt g L := by
  induction L with
  | nil => cases he
  | cons x r ih =>
    rw [Wt_cons]
    have h1 := hp x (List.mem_cons_self ..)
    have h0 : ∀ q, 0 ≤ g q := fun q => by have := hg q; omega
    have h2 := Wt_nonneg h0 (L := r) (fun y hy => hp y (List.mem_cons_of_mem _ hy))
    have h3 : 1 * x.c ≤ g x.kk * x.c := Int.mul_le_mul_of_nonneg_right (hg _) (by omega)
    rcases List.mem_cons.1 he with rfl | he
    · omega
    · have h4 := ih (fun y hy => hp y (List.mem_cons_of_mem _ hy)) he
      omega

theorem cnt_le {g : Ky → Int} (hg : ∀ q, 1 ≤ g q) {L : List En} (hp : Pos L) (k o : Int) (s : ByteArray) : 0 ≤ cnt L k o s ∧ cnt L k o s ≤ Wt g L := by
  have h0 : ∀ q, 0 ≤ g q := fun q => by have := hg q; omega
  unfold cnt
  split
  · rename_i e he
    have hm := List.mem_of_find?_eq_some he
    exact ⟨by have := hp e hm; omega, (mem_le hg hp hm).1⟩
  · exact ⟨Int.le_refl 0, Wt_nonneg h0 hp⟩

/-- the batch b takes READs and PROCEEDs out of w -/
structure Lp (W0 wr : World) (base pb pw : Nat) (vw : Value) (F : List Fr) (m : Option Nat) (L0 : List En) (clk : Nat) (z0 room : Int) (mb : Option Nat) (Lb : List En) (cb : Nat) (Lw : List En) : Prop where
  b : Bt wr base pb (.slice none 0 0) [] mb Lb cb (Wt szk Lb)
  w : Bt wr base pw vw F m Lw clk (z0 - Wt szk Lb)
  sum : ∀ g, Wt g Lb + Wt g Lw = Wt g L0
  pb' : Pos Lb
  pw' : Pos Lw
  fit : Lb = [] ∨ Wt szk Lb ≤ room
  nm : ∀ e ∈ Lw, e.s.size ≤ 1048576 ∧ szk e.kk < room
  mb' : ∀ x, mb = some x → W0.heap.size ≤ x
  keep : Keep (fun k => k = pb ∨ Bo pw vw m k) W0 wr

section
variable {W0 wr w' : World} {base pb pw clk cb : Nat} {vw : Value} {F : List Fr} {m mb : Option Nat} {L0 Lb Lw : List En} {z0 room : Int}

theorem Lp.move {r : Nat} (h : Lp W0 wr base pb pw vw F m L0 clk z0 room mb Lb cb Lw) (hpb : pb < W0.heap.size) (hpw : ∀ k, Bo pw vw m k → k < W0.heap.size) (hr : W0.heap.size ≤ r) (hmr : mb ≠ some r) (hk : Keep (fun k => k = r) wr w') : Lp W0 w' base pb pw vw F m L0 clk z0 room mb Lb cb Lw := by
  refine ⟨h.b.keep hk ?_, h.w.keep hk ?_, h.sum, h.pb', h.pw', h.fit, h.nm, h.mb', h.keep.trans hk (fun j hj e => by omega)⟩
  · rintro k (rfl | e | e) rfl
    · omega
    · cases e
    · exact hmr e
  · rintro k hk' rfl
    have := hpw k hk'
    omega

theorem Lp.zb0 (h : Lp W0 wr base pb pw vw F m L0 clk z0 room mb Lb cb Lw) : 0 ≤ Wt szk Lb := Wt_nonneg (fun q => by have := szk_pos q; omega) h.pb'
theorem Lp.zw0 (h : Lp W0 wr base pb pw vw F m L0 clk z0 room mb Lb cb Lw) : 0 ≤ Wt szk Lw := Wt_nonneg (fun q => by have := szk_pos q; omega) h.pw'
end

theorem Rg.left {w : World} {b r clk since : Nat} {L : List En} {seen : Array Nat} (hM : Mp w b L clk) (h : Rg w b r L since seen) : w.rangeLeft b r = un L seen := by
  obtain ⟨c0, h1, _⟩ := h.it
  unfold World.rangeLeft
  rw [hM.blk, h1]
  exact left_un L seen

theorem Lp.done {W0 w3 w4 w5 : World} {base pb pw clk cb bw r eb b4 c4 clk4 : Nat} {vw : Value} {F : List Fr} {mb : Option Nat} {L0 Lb Lw : List En} {z0 room k o c d : Int} {s : ByteArray} {seen : Array Nat}
    (h : Lp W0 w3 base pb pw vw F (some bw) L0 clk z0 room mb Lb cb Lw) (hpb : pb < W0.heap.size) (hpw : ∀ j, Bo pw vw (some bw) j → j < W0.heap.size) (hd : ¬ Bo pw vw (some bw) pb) (hmr : mb ≠ some r) (hr : r = W0.heap.size) (hr3 : r < w3.heap.size)
    (hRg : Rg w3 bw r Lw clk (seen.push eb)) (he : (⟨k, o, s, c, eb⟩ : En) ∈ Lw) (hse : seen.contains eb = false) (hd1 : 1 ≤ d) (hdc : d ≤ c) (hfit : Wt szk Lb + d * szk (k, o, s) ≤ room)
    (hB4 : Bt w4 base pb (.slice none 0 0) [] (some b4) (bump Lb k o s (cnt Lb k o s + d) c4) clk4 (Wt szk Lb + d * szk (k, o, s))) (hmb4 : mb = some b4 ∨ (mb = none ∧ w3.heap.size ≤ b4)) (hK4 : Keep (Bo pb (.slice none 0 0) mb) w3 w4)
    (hM5 : Mp w5 bw (dec Lw k o s d) clk) (hK5 : Keep (fun j => j = bw) w4 w5) :
    Lp W0 (w5.setCell ⟨pw, 2, none⟩ (.int .i64 (z0 - Wt szk Lb - d * szk (k, o, s)))) base pb pw vw F (some bw) L0 clk z0 room (some b4) (bump Lb k o s (cnt Lb k o s + d) c4) clk4 (dec Lw k o s d) ∧
    Rg (w5.setCell ⟨pw, 2, none⟩ (.int .i64 (z0 - Wt szk Lb - d * szk (k, o, s)))) bw r (dec Lw k o s d) clk (seen.push eb) ∧ some b4 ≠ some r ∧ un (dec Lw k o s d) (seen.push eb) < un Lw seen := by
  have hMw := (h.w.mso bw rfl).2
  have hex : ∃ e ∈ Lw, e.kk = (k, o, s) := ⟨_, he, rfl⟩
  have hcw : cnt Lw k o s = c := cnt_mem hMw.dk he
  have hbb : Dk Lb := by
    cases hm : mb with
    | none => rw [h.b.mno hm]; exact List.Pairwise.nil
    | some x => exact (h.b.mso x hm).2.dk
  have hWb : ∀ g, Wt g (bump Lb k o s (cnt Lb k o s + d) c4) = Wt g Lb + g (k, o, s) * d := by
    intro g
    rw [Wt_bump hbb]
    congr 2
    omega
  have hWw : ∀ g, Wt g (dec Lw k o s d) = Wt g Lw - g (k, o, s) * d := fun g => Wt_dec hMw.dk k o s d g hex
  have hWs : Wt szk (bump Lb k o s (cnt Lb k o s + d) c4) = Wt szk Lb + d * szk (k, o, s) := by rw [hWb, Int.mul_comm]
  have hbwb : bw < W0.heap.size := hpw bw (.inr (.inr rfl))
  have hb4 : W0.heap.size ≤ b4 ∧ b4 ≠ r := by
    rcases hmb4 with h1 | ⟨_, h1⟩
    · exact ⟨h.mb' b4 h1, fun e => hmr (by rw [h1, e])⟩
    · exact ⟨by have := h.keep.size; omega, by omega⟩
  have hpwlt : pw < W0.heap.size := hpw pw (.inl rfl)
  have hpbw : pb ≠ bw := fun e => hd (e ▸ .inr (.inr rfl))
  have hpbpw : pb ≠ pw := fun e => hd (e ▸ .inl rfl)
  have hX4 : ∀ j, j < W0.heap.size → j ≠ pb → ¬ Bo pb (.slice none 0 0) mb j := by
    rintro j hj hne (h1 | h1 | h1)
    · exact hne h1
    · cases h1
    · have := h.mb' j h1; omega
  have hw4 : Bt w4 base pw vw F (some bw) Lw clk (z0 - Wt szk Lb) := h.w.keep hK4 (fun j hj => hX4 j (hpw j hj) (fun e => hd (e ▸ hj)))
  have hw5 : Bt w5 base pw vw F (some bw) (dec Lw k o s d) clk (z0 - Wt szk Lb) := by
    refine ⟨(hK5.block pw (hw4.lt pw (.inl rfl)).2 (fun e => hw4.p_ne_m (e ▸ rfl))).trans hw4.st, hw4.ge, own4_of_block hw4.row (fun g e => hK5.block g (hw4.lt g (.inr (.inl e))).2 (fun e' => hw4.w_ne_m rfl (e' ▸ e))), (fun e => by cases e), fun x e => ?_⟩
    cases e
    exact ⟨(hw4.mso bw rfl).1, hM5⟩
  have hb5 : Bt w5 base pb (.slice none 0 0) [] (some b4) (bump Lb k o s (cnt Lb k o s + d) c4) clk4 (Wt szk Lb + d * szk (k, o, s)) := by
    refine hB4.keep hK5 ?_
    rintro j (rfl | e | e) rfl
    · exact hpbw rfl
    · cases e
    · cases e; omega
  have hK : Keep (fun j => j = pb ∨ Bo pw vw (some bw) j) W0 (w5.setCell ⟨pw, 2, none⟩ (.int .i64 (z0 - Wt szk Lb - d * szk (k, o, s)))) := by
    refine Keep.setCell ((h.keep.trans hK4 (fun j hj e => ?_)).trans hK5 (fun j hj e => .inr (.inr (.inr (by rw [e]))))) (.inl (.inr (.inl rfl))) _
    rcases e with e | e | e
    · exact .inl e
    · cases e
    · have := h.mb' j e; omega
  refine ⟨⟨?_, ?_, fun g => ?_, bump_pos h.pb' k o s _ c4 ?_, dec_pos h.pw' (by omega), .inr (by rw [hWs]; exact hfit), fun e he' => ?_, (fun x e => by cases e; exact hb4.1), hK⟩, ?_, ?_, un_dec he hse k o s d⟩
  · rw [hWs]
    refine hb5.same (fun j hj => Below.heap_setCell _ _ _ _ ?_)
    show j ≠ pw
    rcases hj with e | e | e
    · omega
    · cases e
    · cases e; omega
  · rw [hWs]
    have := hw5.setSize (z0 - Wt szk Lb - d * szk (k, o, s))
    have e2 : z0 - (Wt szk Lb + d * szk (k, o, s)) = z0 - Wt szk Lb - d * szk (k, o, s) := by omega
    rw [e2]
    exact this
  · rw [hWb, hWw]
    have := h.sum g
    omega
  · have := (cnt_le (fun q => szk_pos q) h.pb' k o s).1
    omega
  · obtain ⟨x, hx, hkk, _⟩ := dec_mem he'
    have h1 := h.nm x hx
    rw [← hkk] at h1
    unfold En.kk at hkk
    simp at hkk
    rw [hkk.2.2]
    exact ⟨(h.nm x hx).1, h1.2⟩
  · have hrr : w5.heap[r]? = w3.heap[r]? := by
      refine (hK5.block r (Nat.lt_of_lt_of_le hr3 hK4.size) (by omega)).trans (hK4.block r hr3 ?_)
      rintro (e | e | e)
      · omega
      · cases e
      · exact hmr e
    obtain ⟨c0, h1, h2⟩ := hRg.it
    refine ⟨⟨c0, (Below.heap_setCell _ _ _ _ (by show r ≠ pw; omega)).trans (hrr.trans h1), h2⟩, fun x hx => ?_⟩
    obtain ⟨y, hy, _, hb, _⟩ := dec_mem hx
    rw [hb]
    exact hRg.old y hy
  · intro e
    cases e
    exact hb4.2 rfl

end Go.Proofs.Qxb6609323a
