import Derived.Test.Qxb6609323aAd
namespace Go.Proofs.Qxb6609323a
open Go.RowKit Go.Maps Go.WideElems
set_option linter.unusedVariables false

/-- what the row 'taken' holds -/
def tkd (K : List (Ky × Int)) (L : List En) : List Value := K.map fun e => .int .i64 (e.2 - cq L e.1)
/-- .. while the keys are gone through -/
def tkr (K : List (Ky × Int)) (L L' : List En) (k : Nat) : List Value := tkd (K.take k) L' ++ tkd (K.drop k) L

theorem tkr_len (K : List (Ky × Int)) (L L' : List En) (k : Nat) : (tkr K L L' k).length = K.length := by
  unfold tkr tkd
  simp
  omega
theorem tkr_zero (K : List (Ky × Int)) (L L' : List En) : tkr K L L' 0 = tkd K L := by simp [tkr, tkd]
theorem tkr_full (K : List (Ky × Int)) (L L' : List En) : tkr K L L' K.length = tkd K L' := by simp [tkr, tkd]
theorem drop_at {α : Type} {K : List α} {k : Nat} {e : α} (h : K[k]? = some e) : K.drop k = e :: K.drop (k + 1) := by
  have hlt := (List.getElem?_eq_some_iff.1 h).1
  rw [List.drop_eq_getElem_cons hlt]
  rw [List.getElem?_eq_getElem hlt] at h
  cases h
  rfl
theorem tkr_at {K : List (Ky × Int)} {L L' : List En} {k : Nat} {e : Ky × Int} (h : K[k]? = some e) : (tkr K L L' k)[k]? = some (.int .i64 (e.2 - cq L e.1)) := by
  have hlt := (List.getElem?_eq_some_iff.1 h).1
  unfold tkr
  rw [List.getElem?_append_right (by simp [tkd]; omega)]
  have : (tkd (K.take k) L').length = k := by simp [tkd]; omega
  rw [this, Nat.sub_self, drop_at h]
  rfl
theorem tkr_set {K : List (Ky × Int)} {L L' : List En} {k : Nat} {e : Ky × Int} (h : K[k]? = some e) : (tkr K L L' k).set k (.int .i64 (e.2 - cq L' e.1)) = tkr K L L' (k + 1) := by
  have hlt := (List.getElem?_eq_some_iff.1 h).1
  have hl : (tkd (K.take k) L').length = k := by simp [tkd]; omega
  unfold tkr
  rw [List.set_append_right _ _ (by omega), hl, Nat.sub_self, drop_at h, List.take_add_one, h]
  simp [tkd]

def ksum (K : List (Ky × Int)) (g : Ky → Int) : Int := (K.map fun e => g e.1).sum
theorem ksum_snoc {K : List (Ky × Int)} {k : Nat} {e : Ky × Int} (h : K[k]? = some e) (g : Ky → Int) : ksum (K.take (k + 1)) g = ksum (K.take k) g + g e.1 := by
  unfold ksum
  rw [List.take_add_one, h]
  simp
theorem ksum_nonneg {K : List (Ky × Int)} {g : Ky → Int} (h : ∀ q, 0 ≤ g q) : 0 ≤ ksum K g := by
  induction K with
  | nil => exact Int.le_refl 0
  | cons e r ih =>
    have : ksum (e :: r) g = g e.1 + ksum r g := by simp [ksum]
    have := h e.1
    omega
theorem ksum_take {K : List (Ky × Int)} {g : Ky → Int} (h : ∀ q, 0 ≤ g q) (k : Nat) : ksum (K.take k) g ≤ ksum K g := by
  have h1 : ksum (K.take k ++ K.drop k) g = ksum (K.take k) g + ksum (K.drop k) g := by unfold ksum; rw [List.map_append, List.sum_append]
  rw [List.take_append_drop] at h1
  have := ksum_nonneg (K := K.drop k) h
  omega

/-- the state of the draining -/
structure St (w5 wr : World) (T : List Fr) (K : List (Ky × Int)) (tkb : Nat) (room : Int) (nx rd : Nat) (vw : Value) (m : Option Nat) (Lw : List En) (clk : Nat) : Prop where
  bt : Bt wr w5.heap.size w5.heap.size vw ((wrt T).drop nx) m Lw clk (fsum ((wrt T).drop nx) + Wt szk Lw)
  nxl : nx ≤ (wrt T).length
  pos : Pos Lw
  nm : ∀ e ∈ Lw, e.s.size ≤ 1048576 ∧ szk e.kk < room
  cn : ∀ q, cq Lw q ≤ bc T q
  tk : wr.ownsRow w5.heap.size 3 1 (.slice (some ⟨tkb, 0, none⟩) K.length K.length) K.length (tkd K Lw)
  ct : (rd : Int) + (((wrt T).drop nx).length : Int) + Wt (fun _ => 1) Lw ≤ (T.length : Int)
  tot : fsum ((wrt T).drop nx) + Wt szk Lw ≤ 1048576
  below : Below w5.heap.size w5 wr

theorem nm_of {T : List Fr} {room : Int} (hA : Asked T room) {L : List En} (hd : Dk L) (hp : Pos L) (hc : ∀ q, cq L q ≤ bc T q) : ∀ e ∈ L, e.s.size ≤ 1048576 ∧ szk e.kk < room := by
  intro e he
  have h1 := hc e.kk
  rw [cq_mem hd he] at h1
  have h2 := hp e he
  obtain ⟨f, hf, hk, hq⟩ := bc_pos (T := T) (q := e.kk) (by omega)
  have h3 := hA.fits f hf (by omega)
  rw [hq] at h3
  refine ⟨?_, h3⟩
  unfold Fr.q En.kk at hq
  simp at hq
  rw [← hq.2.2]
  exact (hA.bnd f hf).1

theorem zeros_tkd {T : List Fr} {K : List (Ky × Int)} (hM : M T K) {L : List En} (hc : ∀ q, cq L q = bc T q) : tkd K L = List.replicate K.length (.int .i64 0) := by
  unfold tkd
  apply List.ext_getElem?
  intro j
  rw [List.getElem?_map]
  by_cases hj : j < K.length
  · rw [List.getElem?_eq_getElem hj, List.getElem?_replicate, if_pos hj]
    simp
    have := hM.ct K[j] (List.getElem_mem hj)
    rw [this, hc]
    omega
  · rw [List.getElem?_eq_none (by omega), List.getElem?_eq_none (by simp; omega)]
    rfl

/-- the totals of a batch, by the model's keys -/
theorem b_sums {T : List Fr} {K : List (Ky × Int)} (hM : M T K) {Lb : List En} (hd : Dk Lb) (hp : Pos Lb) (hc : ∀ q, cq Lb q ≤ bc T q) : ksum K (fun q => cq Lb q * szk q) = Wt szk Lb ∧ ksum K (fun q => if 0 < cq Lb q then 1 else 0) = (Lb.length : Int) := by
  have hin : ∀ e ∈ Lb, e.kk ∈ K.map (·.1) := fun e he => key_in hM hd hp hc he
  have h1 := sum_keys (fun q c => c * szk q) (fun q => by simp) hM.nd hd hin
  have h2 := sum_keys (fun _ c => if 0 < c then 1 else 0) (fun q => by simp) hM.nd hd hin
  rw [List.map_map] at h1 h2
  rw [Sh_Wt] at h1
  rw [Sh_len hp] at h2
  exact ⟨h1, h2⟩

theorem FOk_of {T : List Fr} (h : ∀ f ∈ T, TOk f ∧ KOk f.k f.o f.s) (nx : Nat) : ∀ f ∈ (wrt T).drop nx, FOk f := by
  intro f hf
  have hm := List.mem_of_mem_drop hf
  unfold wrt at hm
  obtain ⟨h1, h2⟩ := List.mem_filter.1 hm
  simp at h2
  obtain ⟨h3, h4, h5⟩ := (h f h1).1
  exact ⟨by omega, h4, h5⟩

/-- what follows of a take -/
theorem St.took {w5 wr w6 w7 : World} {T : List Fr} {K : List (Ky × Int)} {tkb pb : Nat} {room : Int} {nx rd : Nat} {vw : Value} {m : Option Nat} {Lw : List En} {clk : Nat} (h : St w5 wr T K tkb room nx rd vw m Lw clk)
    (h6 : Below wr.heap.size wr w6) (hpb : w6.heap[pb]? = some (.cells #[.slice none 0 0, .map none, .int .i64 0] 47 (0, 0))) (hge : w5.heap.size ≤ pb)
    {F1 F2 : List Fr} {vb vw' : Value} {mb m' : Option Nat} {Lb Lw' : List En} {cb clk' : Nat} (ht : Took w6 w7 w5.heap.size pb w5.heap.size vw ((wrt T).drop nx) m Lw clk room F1 F2 vb vw' mb m' Lb Lw' cb clk')
    (hne : (wrt T).drop nx ≠ [] ∨ Lw ≠ []) :
    (wrt T).drop (nx + F1.length) = F2 ∧ nx + F1.length ≤ (wrt T).length ∧ (∀ q, cq Lb q + cq Lw' q = cq Lw q) ∧ w7.ownsRow w5.heap.size 3 1 (.slice (some ⟨tkb, 0, none⟩) K.length K.length) K.length (tkd K Lw) ∧ Below w5.heap.size w5 w7 ∧
    ((rd + 1 : Nat) : Int) + (F2.length : Int) + Wt (fun _ => 1) Lw' ≤ (T.length : Int) ∧ fsum F1 + Wt szk Lb + (fsum F2 + Wt szk Lw') = fsum ((wrt T).drop nx) + Wt szk Lw := by
  have hbt6 := h.bt.later h6
  have hdrop : (wrt T).drop (nx + F1.length) = F2 := by
    rw [← List.drop_drop, ht.cut, List.drop_left]
  have hlen : ((wrt T).drop nx).length = F1.length + F2.length := by rw [ht.cut, List.length_append]
  have hl2 := hlen
  rw [List.length_drop] at hl2
  have hcs := cq_sum ht.b.dk ht.ww.dk h.bt.dk ht.sum
  have hstat : Stat w6 w7 := Stat.of_keep2 hbt6 hpb ht.keep
  have hown6 : w6.ownsRow w5.heap.size 3 1 (.slice (some ⟨tkb, 0, none⟩) K.length K.length) K.length (tkd K Lw) := own4_of_block h.tk (fun g e => h6.block g (h.tk.lt g e).2)
  refine ⟨hdrop, by have := h.nxl; omega, hcs, hstat.own hown6 (by decide) (by decide), ?_, ?_, ?_⟩
  · have hb6 : Below w5.heap.size w5 w6 := h.below.trans (h6.mono h.below.size)
    refine hb6.trans (ht.keep.below hb6.size (fun k hk => ?_))
    rcases hk with e | e
    · omega
    · exact (hbt6.lt k e).1
  · have h1 := ht.sum (fun _ => 1)
    have h2 := h.ct
    have h3 := Wt_one_len ht.pb'
    have h4 : 1 ≤ (F1.length : Int) + (Lb.length : Int) := by
      rcases ht.some' hne with h5 | h5
      · have := List.length_pos_iff.2 h5; omega
      · have := List.length_pos_iff.2 h5; omega
    omega
  · have h1 := ht.sum szk
    have h2 : fsum ((wrt T).drop nx) = fsum F1 + fsum F2 := by rw [ht.cut, fsum_append]
    omega

theorem St.start {w5 wr : World} {T : List Fr} {K : List (Ky × Int)} {room : Int} {vw : Value} {m : Option Nat} {L : List En} {clk : Nat} (h : Ad w5 wr w5.heap.size T T.length vw m L clk) (hM : M T K) (hA : Asked T room) (hs : fsum (wrt T) + bsum T ≤ 1048576) (hK : K.length ≤ 4096) :
    St w5 (wr.alloc (.cells (madeCells #[.int .i64 0] K.length) 3 (0, 0))) T K wr.heap.size room 0 0 vw m L clk := by
  obtain ⟨h1, h2, h3, h4, h5, h6⟩ := h
  rw [List.take_length] at h1 h2 h4 h5
  have hb := (Below.refl wr.heap.size wr).alloc (Nat.le_refl _) (.cells (madeCells #[.int .i64 0] K.length) 3 (0, 0))
  have hc : ∀ q, cq L q ≤ bc T q := fun q => by rw [h4 q]; exact Int.le_refl _
  refine ⟨?_, Nat.zero_le _, h3, nm_of hA h1.dk h3 hc, hc, ?_, ?_, ?_, h6.alloc h6.size _⟩
  · rw [List.drop_zero]
    exact h1.later hb
  · rw [zeros_tkd hM (fun q => h4 q)]
    refine ⟨by simp, .inr ⟨wr.heap.size, K.length, madeCells #[.int .i64 0] K.length, rfl, h6.size, Array.getElem?_push_size, Nat.le_refl _, by unfold maxLen; omega, by simp [size_madeCells], ?_⟩⟩
    rw [toList_madeCells_one]
    simp
  · rw [List.drop_zero]
    omega
  · rw [List.drop_zero]
    omega

theorem St.rdl {w5 wr : World} {T : List Fr} {K : List (Ky × Int)} {tkb : Nat} {room : Int} {nx rd : Nat} {vw : Value} {m : Option Nat} {Lw : List En} {clk : Nat} (h : St w5 wr T K tkb room nx rd vw m Lw clk) : rd ≤ T.length := by
  have h1 := h.ct
  have h2 := Wt_nonneg (g := fun _ => 1) (fun _ => by omega) h.pos
  omega

end Go.Proofs.Qxb6609323a
