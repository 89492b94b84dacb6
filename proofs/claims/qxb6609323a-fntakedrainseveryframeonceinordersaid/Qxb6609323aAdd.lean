import Derived.Test.Qxb6609323aKeep
namespace Go.Proofs.Qxb6609323a
open Go.RowKit Go.Maps Go.WideElems
open Go.ChangeMaps (setBlock modify_eq_set)
set_option linter.unusedVariables false

theorem fsz_le {k o : Int} {a b : Nat} (ha : a ≤ 1048576) (hb : b ≤ 1048576) : fsz k o a b ≤ 31 + a + b := by
  have h1 := ulen_le (uo_lt o)
  have h2 := ulen_le (x := a) (by omega)
  have h3 := ulen_le (x := b) (by omega)
  unfold fsz
  split <;> omega

theorem fsz_pos (k o : Int) (a b : Nat) : 1 ≤ fsz k o a b := by unfold fsz; omega

theorem eql_map (m : Option Nat) (W : World) : (binOp .eql 45 (.map m) (.map none)).run Try.prog W = .ok (.bool (m == none)) W := by
  have := run_eql_map_nil (P := Try.prog) W 45 61 3 m Try.underlying45
  rw [this]
  cases m <;> rfl

theorem mp_new (w : World) : Mp (w.alloc (.map #[] 0)) w.heap.size [] 0 := by
  refine ⟨Array.getElem?_push_size, by simp, by simp, by simp, by simp⟩

set_option maxRecDepth 100000 in
set_option maxHeartbeats 4000000 in
theorem bare24 (base p clk : Nat) (vw : Value) (F : List Fr) (m : Option Nat) (L : List En) (z d : Int) (k o : Int) (s : ByteArray) (w : World) (h : Bt w base p vw F m L clk z) (hk : KOk k o s) (hk0 : 0 ≤ k) (hs : s.size ≤ 1048576)
    (hz0 : -1000000000000 ≤ z) (hz1 : z ≤ 1000000000000) (hd0 : -1048576 ≤ d) (hd1 : d ≤ 1048576) (hc0 : -1000000000000 ≤ cnt L k o s) (hc1 : cnt L k o s ≤ 1000000000000) :
    Calls Try.prog 24 #[.pointer (some ⟨p, 0, none⟩), .agg #[.int .u8 k, .int .i64 o, .string s], .int .i64 d] w fun e w' => e = .returned (.tuple #[]) ∧ ∃ b c0 clk', Bt w' base p vw F (some b) (bump L k o s (cnt L k o s + d) c0) clk' (z + d * (fsz k o s.size 0 : Int)) ∧
      (m = some b ∨ (m = none ∧ w.heap.size ≤ b)) ∧ Keep (Bo p vw m) w w' := by
  have hbase : base ≤ w.heap.size := Nat.le_trans h.ge (Nat.le_of_lt (h.lt p (.inl rfl)).2)
  obtain ⟨f, hf⟩ : ∃ f, fsz k o s.size 0 = f := ⟨_, rfl⟩
  have hf1 : f ≤ 2000000 := by have := fsz_le (k := k) (o := o) (a := s.size) (b := 0) hs (by omega); omega
  have hfi : 0 ≤ (f : Int) := Int.natCast_nonneg _
  have hfi1 : (f : Int) ≤ 2000000 := by omega
  have hm0 : -1048576 * 2000000 ≤ d * (f : Int) := by
    have h1 : -1048576 * (f : Int) ≤ d * (f : Int) := Int.mul_le_mul_of_nonneg_right hd0 hfi
    omega
  have hm1 : d * (f : Int) ≤ 1048576 * 2000000 := by
    have h1 : d * (f : Int) ≤ 1048576 * (f : Int) := Int.mul_le_mul_of_nonneg_right hd1 hfi
    omega
  have hw1 : IntKind.i64.wrap (d * (f : Int)) = d * (f : Int) := wrap_small _ (by omega) (by omega)
  have hw2 : IntKind.i64.wrap (z + d * (f : Int)) = z + d * (f : Int) := wrap_small _ (by omega) (by omega)
  have hw3 : IntKind.i64.wrap (cnt L k o s + d) = cnt L k o s + d := wrap_small _ (by omega) (by omega)
  obtain ⟨c, hc⟩ : ∃ c, cnt L k o s = c := ⟨_, rfl⟩
  rw [hc] at hw3
  rw [hf, hc]
  clear hm0 hm1 hfi hfi1 hf1 hz0 hz1 hd0 hd1 hc0 hc1
  have hA := h.later ((Below.refl w.heap.size w).alloc (Nat.le_refl _) (.cells #[.int .u8 k, .int .i64 o, .string s] 61 (0, 0)))
  have hbox : (w.alloc (.cells #[.int .u8 k, .int .i64 o, .string s] 61 (0, 0))).heap[w.heap.size]? = some (.cells #[.int .u8 k, .int .i64 o, .string s] 61 (0, 0)) := Array.getElem?_push_size
  have HK := hide hk
  have HA := hide hA
  have HX := hide hbox
  have HH := hide h
  have c1 := hA.c1
  clear hA hbox hk h
  have he := eql_map m
  go_enter Try.func24, Try.ntmps24
  go_upto_if 10 with fail
  go_cut [] (fun wx => ∃ b c0, Bt wx base p vw F (some b) L c0 z ∧ wx.heap[w.heap.size]? = some (.cells #[.int .u8 k, .int .i64 o, .string s] 61 (0, 0)) ∧ (m = some b ∨ (m = none ∧ w.heap.size ≤ b)) ∧ Keep (Bo p vw m) w wx)
  case first =>
    cases m with
    | none =>
      have hmk : ∀ W : World, (Instr.makeMap 45 none).run Try.prog W = .ok (.map (some W.heap.size)) (W.alloc (.map #[] 0)) := fun W => rfl
      have hL : L = [] := HH.out.mno rfl
      have hB1 := HA.out.later ((Below.refl _ _).alloc (Nat.le_refl _) (.map #[] 0))
      have c1' := hB1.c1
      have f1' := hB1.fz 1
      have HB1 := hide hB1
      clear hB1
      go_wp2_with fail
      go_meet
      refine ⟨w.heap.size + 1, 0, ?_, ?_, .inr ⟨by trivial, by omega⟩, ?_⟩
      · have := HB1.out.setMap (b := w.heap.size + 1) (L' := []) (clk' := 0) (by omega) (by have h1 := mp_new (w.alloc (.cells #[.int .u8 k, .int .i64 o, .string s] 61 (0, 0))); simp only [World.size_alloc] at h1; exact h1)
        rw [hL]
        exact this
      · refine (Below.heap_setCell _ _ _ _ ?_).trans ((Below.heap_alloc _ _ _ (by simp)).trans HX.out)
        have := (HH.out.lt p (.inl rfl)).2
        show w.heap.size ≠ p
        omega
      · exact (((Keep.refl _ w).alloc _).alloc _).setCell (.inl (.inl rfl)) _
    | some b =>
      go_wp2_with fail
      go_meet
      exact ⟨b, clk, HA.out, HX.out, .inl rfl, Keep.of_below ((Below.refl w.heap.size w).alloc (Nat.le_refl _) _)⟩
  case rest =>
    obtain ⟨b, c0, hB, hX, hmb, hK⟩ := hcut
    obtain ⟨W1, W2, clk1, st, hP⟩ := ((hB.mso b rfl).2.same (w' := wc.drew) rfl).puts HK.out (c + d)
    have hlook := hP.look
    have hlook1 := hP.look1
    have hent := hP.ent
    have hsto := hP.sto
    rw [hc] at hlook hlook1 hent
    have hpb : p ≠ b := fun e => hB.p_ne_m (e ▸ rfl)
    have hxb : w.heap.size ≠ b := by
      intro e
      have h1 := (hB.mso b rfl).2.blk
      rw [← e, hX] at h1
      cases h1
    have c1a : wc.drew.cell? ⟨p, 1, none⟩ = some (.map (some b)) := hB.c1
    have c1b : W1.cell? ⟨p, 1, none⟩ = some (.map (some b)) := (World.cell?_of_block (w := wc) (hP.o1 p hpb)).trans hB.c1
    have hB2 : Bt W2 base p vw F (some b) (bump L k o s (c + d) c0) clk1 z := by
      exact (hB.same (w' := wc.drew) (fun _ _ => rfl)).setMp hP.mp hP.o2
    have hX2 : W2.heap[w.heap.size]? = some (.cells #[.int .u8 k, .int .i64 o, .string s] 61 (0, 0)) := (hP.o2 _ hxb).trans hX
    have hK2 : Keep (Bo p vw m) w W2 := by
      refine ⟨?_, ?_, ?_, ?_, ?_⟩
      · exact (hP.bel 0 (Nat.zero_le _)).os.trans hK.os
      · exact (hP.bel 0 (Nat.zero_le _)).tape.trans hK.tape
      · exact (hP.bel 0 (Nat.zero_le _)).output.trans hK.output
      · exact Nat.le_trans hK.size (hP.bel 0 (Nat.zero_le _)).size
      · intro j hj hx
        refine (hP.o2 j ?_).trans (hK.block j hj hx)
        rintro rfl
        rcases hmb with h1 | ⟨_, h1⟩
        · exact hx (.inr (.inr h1))
        · omega
    obtain ⟨x0, x1, x2⟩ := box3 (w := wc.drew) hX
    have HB2 := hide hB2
    have HK2 := hide hK2
    have HX2 := hide hX2
    have HMB := hide hmb
    clear hB hX hmb hK hP hB2 hX2 hK2 c1 he
    go_upto_region 3 with fail
    go_cut [] (fun wx => wx = W2)
    case first =>
      go_region
      all_goals (go_wp2_with fail; go_meet; rfl)
    case rest =>
      subst hcut
      have hB3 := HB2.out.same (w' := wc.drew) (fun _ _ => rfl)
      have c2 := hB3.c2
      have f2 := hB3.fz 2
      obtain ⟨y0, y1, y2⟩ := box3 (w := wc.drew) HX2.out
      have H25 := hide (frame25 k o s wc.drew)
      have HB3 := hide hB3
      have HF := hide (And.intro hk0 (And.intro hs hf))
      clear hB3 hf hs hk0
      go_upto_region 4 with fail
      go_region_with (first
        | (go_at_call 25; refine H25.out.mono ?_; rintro e w1 ⟨rfl, hb1⟩; have hB4 := hide (HB3.out.later hb1); have c2a := hB4.out.c2; have f2a := hB4.out.fz 2; have HK3 := hide (hb1); clear hb1; unfold frm)
        | (go_at_call 23; refine (fsize23 k o s none 0 0 _ HF.out.1 HF.out.2.1 (by omega) (.inr rfl)).mono ?_; rintro e w2 ⟨rfl, hb2⟩; rw [HF.out.2.2]; have hB5 := hide (hB4.out.later hb2); have c2b := hB5.out.c2; have f2b := hB5.out.fz 2; have HK4 := hide (hb2); clear hb2))
      all_goals
        go_wp2_with fail
        go_end0
        refine ⟨rfl, _, _, _, hB5.out.setSize _, HMB.out, ?_⟩
        exact (((HK2.out.drew).trans (Keep.of_below (X := fun _ => False) HK3.out) (fun _ _ h => h.elim)).trans (Keep.of_below (X := fun _ => False) HK4.out) (fun _ _ h => h.elim)).setCell (.inl (.inl rfl)) _

end Go.Proofs.Qxb6609323a
