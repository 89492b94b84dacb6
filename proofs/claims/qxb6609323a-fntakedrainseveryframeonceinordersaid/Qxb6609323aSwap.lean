import Derived.Test.Qxb6609323aRng
namespace Go.Proofs.Qxb6609323a
open Go.RowKit Go.Maps Go.WideElems
open Go.ChangeMaps (setBlock modify_eq_set)
set_option linter.unusedVariables false

theorem Bt.drew {w : World} {base p clk : Nat} {vw : Value} {F : List Fr} {m : Option Nat} {L : List En} {z : Int} (h : Bt w base p vw F m L clk z) : Bt w.drew base p vw F m L clk z := h.same (fun _ _ => rfl)

theorem Bt.moved {w w' : World} {base p q clk : Nat} {vw : Value} {F : List Fr} {m : Option Nat} {L : List En} {z : Int} (h : Bt w base p vw F m L clk z) (hq : base ≤ q) (hst : w'.heap[q]? = some (.cells #[vw, .map m, .int .i64 z] 47 (0, 0)))
    (ho : ∀ k, (vw.ownBlock = some k ∨ m = some k) → w'.heap[k]? = w.heap[k]?) : Bt w' base q vw F m L clk z :=
  ⟨hst, hq, own4_of_block h.row (fun g e => ho g (.inl e)), h.mno, fun b e => ⟨(h.mso b e).1, (h.mso b e).2.same (ho b (.inr e))⟩⟩

theorem set3 {w : World} {p : Nat} {a0 a1 a2 : Value} {t : TypeId} (h : w.heap[p]? = some (.cells #[a0, a1, a2] t (0, 0))) (x0 x1 x2 : Value) :
    (((w.setCell ⟨p, 0, none⟩ x0).setCell ⟨p, 1, none⟩ x1).setCell ⟨p, 2, none⟩ x2).heap[p]? = some (.cells #[x0, x1, x2] t (0, 0)) :=
  heap_setCell_same _ p 2 _ _ x2 (heap_setCell_same _ p 1 _ _ x1 (heap_setCell_same _ p 0 _ _ x0 h))

theorem set3_other (w : World) {p k : Nat} (h : k ≠ p) (x0 x1 x2 : Value) :
    (((w.setCell ⟨p, 0, none⟩ x0).setCell ⟨p, 1, none⟩ x1).setCell ⟨p, 2, none⟩ x2).heap[k]? = w.heap[k]? := by
  rw [Below.heap_setCell _ _ _ _ h, Below.heap_setCell _ _ _ _ h, Below.heap_setCell _ _ _ _ h]

theorem swapped {base pb pw clk cb : Nat} {vb vw : Value} {F Fb : List Fr} {m mb : Option Nat} {L Lb : List En} {z zb : Int} {w : World} (hb : Bt w base pb vb Fb mb Lb cb zb) (hw : Bt w base pw vw F m L clk z) (hne : pb ≠ pw)
    (hd : ∀ k, Bo pb vb mb k → ¬ Bo pw vw m k) :
    Bt ((((((w.setCell ⟨pb, 0, none⟩ vw).setCell ⟨pb, 1, none⟩ (.map m)).setCell ⟨pb, 2, none⟩ (.int .i64 z)).setCell ⟨pw, 0, none⟩ vb).setCell ⟨pw, 1, none⟩ (.map mb)).setCell ⟨pw, 2, none⟩ (.int .i64 zb)) base pb vw F m L clk z ∧
    Bt ((((((w.setCell ⟨pb, 0, none⟩ vw).setCell ⟨pb, 1, none⟩ (.map m)).setCell ⟨pb, 2, none⟩ (.int .i64 z)).setCell ⟨pw, 0, none⟩ vb).setCell ⟨pw, 1, none⟩ (.map mb)).setCell ⟨pw, 2, none⟩ (.int .i64 zb)) base pw vb Fb mb Lb cb zb ∧
    Keep (fun k => k = pb ∨ k = pw) w ((((((w.setCell ⟨pb, 0, none⟩ vw).setCell ⟨pb, 1, none⟩ (.map m)).setCell ⟨pb, 2, none⟩ (.int .i64 z)).setCell ⟨pw, 0, none⟩ vb).setCell ⟨pw, 1, none⟩ (.map mb)).setCell ⟨pw, 2, none⟩ (.int .i64 zb)) := by
  have hne' : pw ≠ pb := Ne.symm hne
  refine ⟨hw.moved hb.ge ?_ (fun k hk => ?_), hb.moved hw.ge ?_ (fun k hk => ?_), ?_⟩
  · exact (set3_other _ hne _ _ _).trans (set3 hb.st _ _ _)
  · refine (set3_other _ ?_ _ _ _).trans (set3_other _ ?_ _ _ _)
    · rintro rfl
      rcases hk with h | h
      · exact hw.p_ne_w h
      · exact hw.p_ne_m h
    · rintro rfl
      exact hd k (.inl rfl) (.inr hk)
  · exact set3 ((set3_other _ hne' _ _ _).trans hw.st) _ _ _
  · refine (set3_other _ ?_ _ _ _).trans (set3_other _ ?_ _ _ _)
    · rintro rfl
      exact hd k (.inr hk) (.inl rfl)
    · rintro rfl
      rcases hk with h | h
      · exact hb.p_ne_w h
      · exact hb.p_ne_m h
  · exact (((((((Keep.refl _ w).setCell (.inl (.inl rfl)) _).setCell (.inl (.inl rfl)) _).setCell (.inl (.inl rfl)) _).setCell (.inl (.inr rfl)) _).setCell (.inl (.inr rfl)) _).setCell (.inl (.inr rfl)) _)

set_option maxRecDepth 100000 in
set_option maxHeartbeats 4000000 in
theorem take19a (base pb pw clk cb : Nat) (vb vw : Value) (F Fb : List Fr) (m mb : Option Nat) (L Lb : List En) (z zb room : Int) (w : World) (hb : Bt w base pb vb Fb mb Lb cb zb) (hw : Bt w base pw vw F m L clk z) (hne : pb ≠ pw)
    (hd : ∀ k, Bo pb vb mb k → ¬ Bo pw vw m k) (hz : z ≤ room) :
    Calls Try.prog 19 #[.pointer (some ⟨pb, 0, none⟩), .pointer (some ⟨pw, 0, none⟩), .int .i64 room] w fun e w' => e = .returned (.tuple #[]) ∧ Bt w' base pb vw F m L clk z ∧ Bt w' base pw vb Fb mb Lb cb zb ∧ Keep (fun k => k = pb ∨ k = pw) w w' := by
  have b0 := hb.c0
  have b1 := hb.c1
  have b2 := hb.c2
  have w0 := hw.c0
  have w1 := hw.c1
  have w2 := hw.c2
  have f0 := hb.fz 0
  have f1 := hb.fz 1
  have f2 := hb.fz 2
  have g0 := hw.fz 0
  have g1 := hw.fz 1
  have g2 := hw.fz 2
  have hne' : ¬ pw = pb := fun e => hne e.symm
  obtain ⟨x0, x1, x2, rfl⟩ : ∃ a b c, vb = .slice a b c := by
    rcases hb.row.2 with ⟨h0, _⟩ | ⟨g', c', _, h0, _⟩ <;> exact ⟨_, _, _, h0⟩
  obtain ⟨y0, y1, y2, rfl⟩ : ∃ a b c, vw = .slice a b c := by
    rcases hw.row.2 with ⟨h0, _⟩ | ⟨g', c', _, h0, _⟩ <;> exact ⟨_, _, _, h0⟩
  have HB := hide hb
  have HW := hide hw
  have HD := hide hd
  clear hb hw hd
  go_enter Try.func19, Try.ntmps19
  go_upto_region 1 with fail
  go_region
  go_wp2_with fail
  refine bodyPost_ret (results_none rfl _ _ _) rfl ?_
  obtain ⟨h1, h2, h3⟩ := swapped HB.out HW.out hne HD.out
  exact ⟨rfl, h1.drew, h2.drew, h3.drew⟩

end Go.Proofs.Qxb6609323a
