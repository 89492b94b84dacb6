import Derived.Test.Qxb6612279aRoom
namespace Go.Proofs.Qxb6612279a
open Go.RowKit
set_option linter.unusedVariables false

theorem Mid.own {base : Nat} {w : World} {I b : Nat} {bs hd : List Int} {k : Int} {err old v : Value} (h : Mid base w I b bs hd k err old v) : w.ownsRow base 5 1 v hd.length (U8 hd) := by
  obtain ⟨R, cap, G, rfl, hS, ⟨cur, r1, r2, r3, r4⟩, hcap, hRG, h1, h2, h3, h4⟩ := h
  rw [U8_length] at r3 r4
  exact ⟨by rw [U8_length]; omega, .inr ⟨R, cap, cur, rfl, h3, r1, r3, hcap, by simpa using r2, by simpa using r4⟩⟩

theorem Mid.shape {base : Nat} {w : World} {I b : Nat} {bs hd : List Int} {k : Int} {err old v : Value} (h : Mid base w I b bs hd k err old v) : ∃ a l c, v = .slice a l c := by
  obtain ⟨R, cap, G, rfl, _⟩ := h
  exact ⟨_, _, _, rfl⟩

theorem mid_append {base : Nat} {w w' : World} {I b : Nat} {bs hd ys : List Int} {k : Int} {err old v v' : Value} (h : Mid base w I b bs hd k err old v)
    (ho : w'.ownsRow base 5 1 v' (hd.length + ys.length) (U8 hd ++ ys.map (Value.int .u8))) (hg : w.grownBy w' v.ownBlock) (hl : v'.ownBlock = v.ownBlock ∨ v'.ownBlock = some w.heap.size) :
    Mid base w' I b bs (hd ++ ys) k err old v' ∧ Below base w w' := by
  have h5 := mid_lt h
  obtain ⟨R, cap, G, rfl, hS, hr, hcap, hRG, h1, h2, h3, h4⟩ := h
  have hob : (Value.slice (some ⟨R, 0, none⟩) hd.length cap).ownBlock = some R := rfl
  rw [hob] at hg hl
  have hk : Kept w w' (fun k => k = R) := Kept.of_grown hg
  have hRI := hr.ne_ib hS.ib
  have hRb : R ≠ b := by obtain ⟨v, hs⟩ := hS.has.sk; exact hr.ne_sk hs
  have hS' : S w' I b bs G old k err := ⟨hS.ib.of_block (hk.block I (heap_lt hS.ib) (fun e => hRI e.symm)), hS.has.of_blocks (hk.block b hS.has.lt (fun e => hRb e.symm)) (fun g hg => hk.block g (hS.has.ltG g hg).1 (fun e => hRG (by rw [hg, e])))⟩
  have hbel : Below base w w' := hk.ge h5 (fun k e => by rw [e]; exact h3)
  rcases ho.2 with ⟨rfl, h0⟩ | ⟨R', cap', cur, rfl, q1, q2, q3, q4, q5, q6⟩
  · simp [Value.ownBlock] at hl
  · refine ⟨⟨R', cap', G, by rw [List.length_append], hS', ⟨cur, q2, by simpa using q5, by rw [U8_length, List.length_append]; exact q3, ?_⟩, q4, ?_, h1, h2, q1, h4⟩, hbel⟩
    · rw [U8_length, List.length_append, U8_append]
      simpa [U8] using q6
    · simp only [Value.ownBlock, Option.some.injEq] at hl
      intro e
      rcases hl with rfl | rfl
      · exact hRG e
      · have := (hS.has.ltG _ e.symm).1
        omega

theorem mid_new {w w' : World} {I b R : Nat} (h1 : w.heap.size ≤ I) (h2 : w.heap.size ≤ b) (h3 : w.heap.size ≤ R) (hb : w'.heap[b]? = some (.cells #[.slice none 0 0, .int .i64 0, .int .i8 0] 57 (0, 0))) (hR : w'.heap[R]? = some (.cells bigCells 5 (0, 0)))
    (hI : w'.heap[I]? = some (.cells #[dstV b, .slice (some ⟨R, 0, none⟩) 0 66560, .int .i64 (-1), .nilIface] 51 (0, 0))) :
    Mid w.heap.size w' I b [] [] (-1) .nilIface (.slice (some ⟨R, 0, none⟩) 0 66560) (.slice (some ⟨R, 0, none⟩) 0 66560) :=
  ⟨R, 66560, none, rfl, ⟨hI, .inl ⟨⟨0, hb⟩, rfl, rfl⟩⟩, ⟨bigCells, hR, big_size, by simp [U8], by simp [U8]⟩, by unfold maxLen; omega, by simp, h1, h2, h3, fun g hg => by cases hg⟩

set_option maxRecDepth 100000 in
set_option maxHeartbeats 1000000 in
theorem start_big (u : Value) (W : List Int) (w : World) (hu : Reads w u W) (hL : (65536 : Int) ≤ (W.length : Int)) (hlim : W.length ≤ 524288) :
    Calls Try.prog 15 #[u] w fun e w' => ∃ I b v, e = .returned (.tuple #[.pointer (some ⟨I, 0, none⟩), .pointer (some ⟨b, 0, none⟩), .bool true]) ∧ Mid w.heap.size w' I b W [] (-1) .nilIface v v ∧ Below w.heap.size w w' := by
  have HZ := hide (zzNew w)
  have HU := hide hu
  obtain ⟨a, l, rfl, _⟩ := hu.at
  clear hu
  have hnn := nil_eql_nil
  go_enter Try.func15, Try.ntmps15
  go_wp2_with fail
  refine HZ.out.mono ?_
  rintro e w1 ⟨I, b, R, rfl, h1, h2, h3, hb, hR, hI, hbel⟩
  have HM := hide (mid_new h1 h2 h3 hb hR hI)
  have HBu := hide (buffer_any I _ _ _ _ w1 hI ⟨_, _, _, rfl⟩)
  clear hb hR hI
  go_wp2_with fail
  refine HBu.out.mono ?_
  rintro e w2 ⟨rfl, rfl⟩
  go_wp2_with (at_builtin; refine wpList_append_reads rfl (.tmp 15) (.tmp 16) rfl w.heap.size _ _ _ rfl HM.out.own _ W rfl (HU.out.later hbel) (by simp; omega) hbel.size ?_; intro v' w3 ho hg hl; refine Hid.out ?_)
  refine hide ?_
  obtain ⟨m1, m2⟩ := mid_append HM.out ho hg hl
  have HM1 := hide m1
  have hsh := m1.shape
  obtain ⟨a', l', c', rfl⟩ := hsh
  have HD := hide (done_full w.heap.size I b [] ([] ++ W) (-1) _ _ w3 m1 (by simpa using hL) (by simp; omega))
  clear m1 ho hg hl
  go_wp2_with fail
  refine HD.out.mono ?_
  rintro e w4 ⟨rfl, ⟨v4, m4⟩, b4⟩
  have HM4 := hide m4
  clear m4
  go_wp2_with fail
  go_ret3
  exact ⟨I, b, v4, rfl, by simpa using HM4.out, (hbel.trans m2).trans b4⟩

set_option maxRecDepth 100000 in
set_option maxHeartbeats 1000000 in
theorem start_small (u : Value) (W : List Int) (w : World) (hu : Reads w u W) (hL : (W.length : Int) < 65536) :
    Calls Try.prog 15 #[u] w fun e w' => ∃ I b v, e = .returned (.tuple #[.pointer (some ⟨I, 0, none⟩), .pointer (some ⟨b, 0, none⟩), .bool true]) ∧ Mid w.heap.size w' I b [] W W.length .nilIface v v ∧ Below w.heap.size w w' := by
  have HZ := hide (zzNew w)
  have HU := hide hu
  obtain ⟨a, l, rfl, _⟩ := hu.at
  clear hu
  have hnn := nil_eql_nil
  have HL := hide hL
  clear hL
  go_enter Try.func15, Try.ntmps15
  go_wp2_with fail
  refine HZ.out.mono ?_
  rintro e w1 ⟨I, b, R, rfl, h1, h2, h3, hb, hR, hI, hbel⟩
  have HM := hide (mid_new h1 h2 h3 hb hR hI)
  have HBu := hide (buffer_any I _ _ _ _ w1 hI ⟨_, _, _, rfl⟩)
  clear hb hR hI
  go_wp2_with fail
  refine HBu.out.mono ?_
  rintro e w2 ⟨rfl, rfl⟩
  go_wp2_with (at_builtin; refine wpList_append_reads rfl (.tmp 15) (.tmp 16) rfl w.heap.size _ _ _ rfl HM.out.own _ W rfl (HU.out.later hbel) ?_ hbel.size ?_; (have := HL.out; simp; omega); intro v' w3 ho hg hl; refine Hid.out ?_)
  refine hide ?_
  obtain ⟨m1, m2⟩ := mid_append HM.out ho hg hl
  have hsh := m1.shape
  obtain ⟨a', l', c', rfl⟩ := hsh
  have HD := hide (done_held w.heap.size I b [] ([] ++ W) (-1) .nilIface _ _ rfl w3 m1 (by simpa using HL.out))
  clear m1 ho hg hl
  go_wp2_with fail
  refine HD.out.mono ?_
  rintro e w4 ⟨rfl, m4, b4⟩
  have HM4 := hide m4
  clear m4
  go_wp2_with fail
  go_ret3
  exact ⟨I, b, _, rfl, by simpa using HM4.out, (hbel.trans m2).trans b4⟩

end Go.Proofs.Qxb6612279a
