import Derived.Test.Qxb6609323aEnv
import Derived.Test.Qxb6609323aLawA
namespace Go.Proofs.Qxb6609323a
open Go.RowKit Go.Maps Go.WideElems
set_option linter.unusedVariables false

theorem Keep.undrew {X : Nat → Prop} {a c : World} (h : Keep X a.drew c) : Keep X a c := ⟨h.os, h.tape, h.output, h.size, h.block⟩

theorem env_start {w3 w4 : World} {B : Nat} {v : Value} {T : List Fr} {V : Nat → Value} {K : List (Ky × Int)} {A : List Nat} (hCl : Cl w3 B v T) (hb : Below w3.heap.size w3 w4) (hrows : ∀ j, j < 7 → w4.ownsRow w3.heap.size (tag j) 1 (V j) (XS K A (zl T) j).length (XS K A (zl T) j)) (O : Obj) (hO : O = .cells #[V 0, V 1, V 2, V 3, V 4, V 5, V 6, .int .i64 (bsum T), .int .i64 (fsum (wrt T))] 32 (0, 0)) : Env (w4.alloc O) v T w4.heap.size V K A := by
  have hb5 : Below w4.heap.size w4 (w4.alloc O) := (Below.refl _ _).alloc (Nat.le_refl _) _
  have hb35 : Below w3.heap.size w3 (w4.alloc O) := hb.trans (hb5.mono hb.size)
  refine ⟨?_, fun f hf => ?_, ?_, fun j hj => ?_⟩
  · rcases hCl.sh with h0 | ⟨g, cur, h1, h2, h3, h4⟩
    · exact .inl h0
    · have h5 := (hb35.block g (heap_lt h3)).trans h3
      exact .inr ⟨g, cur, h1, h5, fun i f hf => (h4 i f hf).later hb35⟩
  · obtain ⟨va, vl, vc, e, hv⟩ := hCl.vals f hf
    exact ⟨va, vl, vc, e, (hv.mono (Nat.zero_le _)).stat (Stat.of_below hb35)⟩
  · rw [← hO]; exact Array.getElem?_push_size
  · exact own_mono (own4_of_block (hrows j hj) (fun g e => hb5.block g ((hrows j hj).lt g e).2)) (Nat.zero_le _)

theorem Env.later {w w' : World} {v : Value} {T : List Fr} {pm : Nat} {V : Nat → Value} {K : List (Ky × Int)} {A : List Nat} (h : Env w v T pm V K A) (hb : Below w.heap.size w w') : Env w' v T pm V K A := h.stat (Stat.of_below hb)

/-- the frames handed to w one by one -/
structure Ad (w5 wr : World) (pw : Nat) (T : List Fr) (i : Nat) (vw : Value) (m : Option Nat) (L : List En) (clk : Nat) : Prop where
  bt : Bt wr w5.heap.size pw vw (wrt (T.take i)) m L clk (fsum (wrt (T.take i)) + Wt szk L)
  tot : Wt szk L = bsum (T.take i)
  pos : Pos L
  cn : ∀ q, cq L q = bc (T.take i) q
  n1 : Wt (fun _ => 1) L + ((wrt (T.take i)).length : Int) = (i : Int)
  below : Below w5.heap.size w5 wr

theorem Bt.dk {w : World} {base p clk : Nat} {vw : Value} {F : List Fr} {m : Option Nat} {L : List En} {z : Int} (h : Bt w base p vw F m L clk z) : Dk L := by
  cases hm : m with
  | none => rw [h.mno hm]; exact List.Pairwise.nil
  | some b => exact (h.mso b hm).2.dk

section
variable {w5 wr w' : World} {pw i clk : Nat} {T : List Fr} {vw : Value} {m : Option Nat} {L : List En} {f : Fr}

theorem Ad.keep (h : Ad w5 wr pw T i vw m L clk) (hk : Keep (Bo pw vw m) wr w') : Below w5.heap.size w5 w' :=
  h.below.trans (hk.below h.below.size (fun k hk => (h.bt.lt k hk).1))

theorem Ad.write (h : Ad w5 wr pw T i vw m L clk) (hf : T[i]? = some f) (hk : f.k ≤ 1) {vw' : Value} (hB : Bt w' w5.heap.size pw vw' (wrt (T.take i) ++ [f]) m L clk (fsum (wrt (T.take i)) + Wt szk L + (f.sz : Int))) (hK : Keep (Bo pw vw m) wr w') : Ad w5 w' pw T (i + 1) vw' m L clk := by
  have e := take_snoc hf
  have ew : wrt (T.take (i + 1)) = wrt (T.take i) ++ [f] := by rw [e, wrt_append, if_pos hk]
  have eb : bsum (T.take (i + 1)) = bsum (T.take i) := by rw [e, bsum_append, if_neg (by omega)]; omega
  refine ⟨?_, by rw [eb]; exact h.tot, h.pos, fun q => ?_, by rw [ew]; have := h.n1; simp; omega, h.keep hK⟩
  · rw [ew, fsum_append, fsum_cons, fsum_nil]
    have e2 : fsum (wrt (T.take i)) + ((f.sz : Int) + 0) + Wt szk L = fsum (wrt (T.take i)) + Wt szk L + (f.sz : Int) := by omega
    rw [e2]
    exact hB
  · rw [e, bc_append, if_neg (fun h1 => by omega), h.cn q]; omega

theorem cq_bump {L : List En} (hd : Dk L) (k o : Int) (s : ByteArray) (clk : Nat) (q : Ky) (hb : Dk (bump L k o s (cnt L k o s + 1) clk)) : cq (bump L k o s (cnt L k o s + 1) clk) q = cq L q + (if (k, o, s) = q then 1 else 0) := by
  unfold cq
  rw [cnt_Wt hb, Wt_bump hd, cnt_Wt hd q.1]
  by_cases h : (k, o, s) = q
  · rw [if_pos h]; omega
  · rw [if_neg h]; omega

theorem Ad.bare (h : Ad w5 wr pw T i vw m L clk) (hf : T[i]? = some f) (hk : 1 < f.k) {b c0 clk' : Nat} (hB : Bt w' w5.heap.size pw vw (wrt (T.take i)) (some b) (bump L f.k f.o f.s (cnt L f.k f.o f.s + 1) c0) clk' (fsum (wrt (T.take i)) + Wt szk L + (fsz f.k f.o f.s.size 0 : Int))) (hK : Keep (Bo pw vw m) wr w') : Ad w5 w' pw T (i + 1) vw (some b) (bump L f.k f.o f.s (cnt L f.k f.o f.s + 1) c0) clk' := by
  have e := take_snoc hf
  have ew : wrt (T.take (i + 1)) = wrt (T.take i) := by rw [e, wrt_append, if_neg (by omega)]
  have eb : bsum (T.take (i + 1)) = bsum (T.take i) + szk f.q := by rw [e, bsum_append, if_pos hk]
  have hsz : (fsz f.k f.o f.s.size 0 : Int) = szk f.q := rfl
  have hW : Wt szk (bump L f.k f.o f.s (cnt L f.k f.o f.s + 1) c0) = Wt szk L + szk f.q := by
    rw [Wt_bump h.bt.dk]
    have e1 : cnt L f.k f.o f.s + 1 - cnt L f.k f.o f.s = 1 := by omega
    rw [e1, Int.mul_one]
    rfl
  have hW1 : Wt (fun _ => 1) (bump L f.k f.o f.s (cnt L f.k f.o f.s + 1) c0) = Wt (fun _ => 1) L + 1 := by
    rw [Wt_bump h.bt.dk]
    omega
  refine ⟨?_, by rw [hW, h.tot, eb], bump_pos h.pos _ _ _ _ _ ?_, fun q => ?_, by rw [hW1, ew]; have := h.n1; omega, h.keep hK⟩
  · rw [ew, hW]
    have e2 : fsum (wrt (T.take i)) + (Wt szk L + szk f.q) = fsum (wrt (T.take i)) + Wt szk L + (fsz f.k f.o f.s.size 0 : Int) := by rw [hsz]; omega
    rw [e2]
    exact hB
  · have := (cnt_le (fun q => szk_pos q) h.pos f.k f.o f.s).1
    omega
  · rw [cq_bump h.bt.dk _ _ _ _ _ hB.dk, h.cn q, e, bc_append]
    by_cases h1 : f.q = q
    · rw [if_pos (show (f.k, f.o, f.s) = q from h1), if_pos ⟨hk, h1⟩]
    · rw [if_neg (show ¬ (f.k, f.o, f.s) = q from h1), if_neg (fun h2 => h1 h2.2)]

theorem Ad.small (h : Ad w5 wr pw T i vw m L clk) (hs : fsum (wrt T) + bsum T ≤ 1048576) : 0 ≤ fsum (wrt (T.take i)) + Wt szk L ∧ fsum (wrt (T.take i)) + Wt szk L ≤ 1048576 ∧ ∀ k o s, 0 ≤ cnt L k o s ∧ cnt L k o s ≤ 1048576 := by
  have h1 := bsum_take T i
  have h2 := wsum_take T i
  have h3 := fsum_nonneg (wrt (T.take i))
  have h4 := bsum_nonneg (T.take i)
  have h5 := h.tot
  refine ⟨by omega, by omega, fun k o s => ?_⟩
  have := cnt_le (fun q => szk_pos q) h.pos k o s
  omega
end

end Go.Proofs.Qxb6609323a
