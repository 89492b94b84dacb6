import Derived.Test.Qxb6612279aMid
namespace Go.Proofs.Qxb6612279a
open Go.RowKit
set_option linter.unusedVariables false

set_option maxRecDepth 100000 in
set_option maxHeartbeats 1000000 in
/-- Done of an open item, the buffer not full: the error comes back -/
theorem done_open (base I b : Nat) (bs hd : List Int) (k : Int) (err old v : Value) (w : World) (h : Mid base w I b bs hd k err old v) (hL : (hd.length : Int) < 65536) :
    Calls Try.prog 17 #[.pointer (some ⟨I, 0, none⟩), v, .bool false] w fun e w' => e = .returned err ∧ Below base w w' := by
  have h5 := mid_lt h
  obtain ⟨R, cap, G, rfl, hS, hr, hcap, hRG, h1, h2, h3, h4⟩ := h
  have hk : Kept w (w.setCell ⟨I, 1, none⟩ (.slice (some ⟨R, 0, none⟩) hd.length cap)) (fun k => k = I) := Kept.set I 1 _
  have c1 := hS.ib.c1
  have f1 := hS.ib.fz 1
  have hS1 := hS.set1 (.slice (some ⟨R, 0, none⟩) hd.length cap)
  have d1 := hS1.ib.c1
  have d3 := hS1.ib.c3
  have hd1 : decide ((65536 : Int) ≤ (hd.length : Int)) = false := decide_eq_false (by omega)
  clear hS hS1 hr hL
  go_enter Try.func17, Try.ntmps17
  go_wp2_with fail
  go_ret
  exact ⟨rfl, hk.ge h5 (fun k e => by rw [e]; exact h1)⟩

set_option maxRecDepth 100000 in
set_option maxHeartbeats 1000000 in
/-- Done of an open item that fills the buffer alone: it goes out in part -/
theorem done_openFull (base I b : Nat) (bs hd : List Int) (old v : Value) (w : World) (h : Mid base w I b bs hd (-1) .nilIface old v) (hL : (65536 : Int) ≤ (hd.length : Int)) (hlim : bs.length + hd.length ≤ 1073741824) :
    Calls Try.prog 17 #[.pointer (some ⟨I, 0, none⟩), v, .bool false] w fun e w' => e = .returned .nilIface ∧ Below base w w' := by
  have h5 := mid_lt h
  obtain ⟨R, cap, G, rfl, hS, hr, hcap, hRG, h1, h2, h3, h4⟩ := h
  have hk : Kept w (w.setCell ⟨I, 1, none⟩ (.slice (some ⟨R, 0, none⟩) hd.length cap)) (fun k => k = I) := Kept.set I 1 _
  have hRI := hr.ne_ib hS.ib
  have c1 := hS.ib.c1
  have f1 := hS.ib.fz 1
  have hS1 := hS.set1 (.slice (some ⟨R, 0, none⟩) hd.length cap)
  have d1 := hS1.ib.c1
  have hr2 := hr.of_block (hk.block R hr.lt hRI)
  have HF := hide (writeFull_part I R b cap bs hd G .nilIface _ hS1 hr2 hcap hRG hlim)
  have hd1 : decide ((65536 : Int) ≤ (hd.length : Int)) = true := decide_eq_true hL
  clear hS hS1 hr hr2
  go_enter Try.func17, Try.ntmps17
  go_wp2_with fail
  refine HF.out.mono ?_
  rintro e w3 ⟨rfl, ho⟩
  obtain ⟨m1, m2⟩ := mid_out ho hk hcap h1 h2 h3 h4 h5
  have q3 : w3.cell? ⟨I, 3, none⟩ = some .nilIface := by obtain ⟨_, _, _, _, m, _⟩ := m1; exact m.ib.c3
  go_wp2_with fail
  go_ret
  exact ⟨rfl, m2⟩

set_option maxRecDepth 100000 in
set_option maxHeartbeats 1000000 in
/-- makeRoom behind complete items: they go out, the open one stays -/
theorem makeRoom_whole (base I b : Nat) (bs gone held : List Int) (old v : Value) (w : World) (h : Mid base w I b bs (gone ++ held) gone.length .nilIface old v) (hlim : bs.length + gone.length ≤ 1073741824) :
    Calls Try.prog 35 #[.pointer (some ⟨I, 0, none⟩), v] w fun e w' => ∃ u, e = .returned u ∧ Mid base w' I b (bs ++ gone) held (-1) .nilIface u u ∧ Below base w w' := by
  have h5 := mid_lt h
  obtain ⟨R, cap, G, rfl, hS, hr, hcap, hRG, h1, h2, h3, h4⟩ := h
  have hk : Kept w (w.setCell ⟨I, 1, none⟩ (.slice (some ⟨R, 0, none⟩) (gone ++ held).length cap)) (fun k => k = I) := Kept.set I 1 _
  have hRI := hr.ne_ib hS.ib
  have c1 := hS.ib.c1
  have f1 := hS.ib.fz 1
  have hS1 := hS.set1 (.slice (some ⟨R, 0, none⟩) (gone ++ held).length cap)
  have d1 := hS1.ib.c1
  have d3 := hS1.ib.c3
  have hr2 := hr.of_block (hk.block R hr.lt hRI)
  rw [List.length_append] at hS1 hr2 hk d1 d3 ⊢
  have HF := hide (writeFull_whole I R b cap bs gone held G .nilIface _ hS1 hr2 hcap hRG hlim)
  have hnn := nil_neq_nil
  clear hS hS1 hr hr2
  go_enter Try.func35, Try.ntmps35
  go_wp2_with fail
  refine HF.out.mono ?_
  rintro e w3 ⟨rfl, ho⟩
  obtain ⟨m1, m2⟩ := mid_out ho hk hcap h1 h2 h3 h4 h5
  have q1 : w3.cell? ⟨I, 1, none⟩ = some (.slice (some ⟨R, 0, none⟩) held.length cap) := by obtain ⟨_, _, _, _, m, _⟩ := m1; exact m.ib.c1
  have M1 := hide m1
  clear m1
  go_wp2_with fail
  go_ret
  exact ⟨_, rfl, M1.out, m2⟩

set_option maxRecDepth 100000 in
set_option maxHeartbeats 1000000 in
/-- makeRoom where no item is complete: the open one goes out in part -/
theorem makeRoom_part (base I b : Nat) (bs gone : List Int) (old v : Value) (w : World) (h : Mid base w I b bs gone (-1) .nilIface old v) (hlim : bs.length + gone.length ≤ 1073741824) :
    Calls Try.prog 35 #[.pointer (some ⟨I, 0, none⟩), v] w fun e w' => ∃ u, e = .returned u ∧ Mid base w' I b (bs ++ gone) [] (-1) .nilIface u u ∧ Below base w w' := by
  have h5 := mid_lt h
  obtain ⟨R, cap, G, rfl, hS, hr, hcap, hRG, h1, h2, h3, h4⟩ := h
  have hk : Kept w (w.setCell ⟨I, 1, none⟩ (.slice (some ⟨R, 0, none⟩) gone.length cap)) (fun k => k = I) := Kept.set I 1 _
  have hRI := hr.ne_ib hS.ib
  have c1 := hS.ib.c1
  have f1 := hS.ib.fz 1
  have hS1 := hS.set1 (.slice (some ⟨R, 0, none⟩) gone.length cap)
  have d1 := hS1.ib.c1
  have d3 := hS1.ib.c3
  have hr2 := hr.of_block (hk.block R hr.lt hRI)
  have HF := hide (writeFull_part I R b cap bs gone G .nilIface _ hS1 hr2 hcap hRG hlim)
  have hnn := nil_neq_nil
  clear hS hS1 hr hr2
  go_enter Try.func35, Try.ntmps35
  go_wp2_with fail
  refine HF.out.mono ?_
  rintro e w3 ⟨rfl, ho⟩
  obtain ⟨m1, m2⟩ := mid_out ho hk hcap h1 h2 h3 h4 h5
  have q1 : w3.cell? ⟨I, 1, none⟩ = some (.slice (some ⟨R, 0, none⟩) ([] : List Int).length cap) := by obtain ⟨_, _, _, _, m, _⟩ := m1; exact m.ib.c1
  have M1 := hide m1
  clear m1
  go_wp2_with fail
  go_ret
  exact ⟨_, rfl, M1.out, m2⟩

theorem S.drew {w : World} {I b : Nat} {bs : List Int} {G : Option Nat} {old err : Value} {k : Int} (h : S w I b bs G old k err) : S w.drew I b bs G old k err :=
  ⟨h.ib, h.has.of_blocks rfl (fun _ _ => rfl)⟩

theorem err_neq_nil (E : Nat) (w : World) : (binOp .neq 34 (.iface 60 (.pointer (some ⟨E, 0, none⟩))) .nilIface).run Try.prog w = .ok (.bool true) w := by kernel_rfl
theorem err_eql_nil (E : Nat) (w : World) : (binOp .eql 34 (.iface 60 (.pointer (some ⟨E, 0, none⟩))) .nilIface).run Try.prog w = .ok (.bool false) w := by kernel_rfl
theorem nil_eql_nil (w : World) : (binOp .eql 34 .nilIface .nilIface).run Try.prog w = .ok (.bool true) w := by kernel_rfl

theorem Rw.headOf {w : World} {g cap : Nat} {xs ys : List Int} (h : Rw w g cap (U8 (xs ++ ys))) : Rw w g cap (U8 xs) := by
  obtain ⟨cur, h1, h2, h3, h4⟩ := h
  rw [U8_append] at h3 h4
  refine ⟨cur, h1, h2, by rw [List.length_append] at h3; omega, ?_⟩
  have h5 := congrArg (List.take (U8 xs).length) h4
  rw [List.take_take, List.length_append, Nat.min_eq_left (by omega), List.take_left' rfl] at h5
  exact h5

set_option maxRecDepth 100000 in
set_option maxHeartbeats 1000000 in
/-- makeRoom after an error: what is complete stays, the open item is dropped -/
theorem makeRoom_failed (base I b : Nat) (bs gone held : List Int) (k : Int) (hk0 : k = gone.length ∨ (k = -1 ∧ gone = [])) (E : Nat) (old v : Value) (w : World) (h : Mid base w I b bs (gone ++ held) k (.iface 60 (.pointer (some ⟨E, 0, none⟩))) old v) :
    Calls Try.prog 35 #[.pointer (some ⟨I, 0, none⟩), v] w fun e w' => ∃ u, e = .returned u ∧ Mid base w' I b bs gone k (.iface 60 (.pointer (some ⟨E, 0, none⟩))) u u ∧ Below base w w' := by
  have h5 := mid_lt h
  obtain ⟨R, cap, G, rfl, hS, hr, hcap, hRG, h1, h2, h3, h4⟩ := h
  have hk : ∀ u, Kept w ((w.setCell ⟨I, 1, none⟩ (.slice (some ⟨R, 0, none⟩) (gone ++ held).length cap)).setCell ⟨I, 1, none⟩ u).drew (fun k => k = I) := fun u =>
    ((Kept.set I 1 _).trans (Kept.set I 1 u) (may := fun k => k = I) (fun _ _ e => e) (fun _ _ e => e)).trans (Kept.drewN _ 1) (fun _ _ e => e) (fun _ _ e => e.elim)
  have hRI := hr.ne_ib hS.ib
  have hlen : gone.length ≤ cap := by obtain ⟨_, _, _, h, _⟩ := hr; rw [U8_length, List.length_append] at h; omega
  have c1 := hS.ib.c1
  have f1 := hS.ib.fz 1
  have hS1 := hS.set1 (.slice (some ⟨R, 0, none⟩) (gone ++ held).length cap)
  have d1 := hS1.ib.c1
  have d2 := hS1.ib.c2
  have d3 := hS1.ib.c3
  have g1 := hS1.ib.fz 1
  have hmax : max k 0 = (gone.length : Int) := by rcases hk0 with rfl | ⟨rfl, rfl⟩ <;> simp <;> omega
  have hmx : ∀ W, (Builtin.max_ #[3, 3] 3 #[.int .i64 k, .int .i64 0]).run Try.prog W = .ok (.int .i64 gone.length) W := by
    intro W
    rw [← hmax]
    simp only [Builtin.max_, List.foldlM_cons, List.foldlM_nil, Builtin.max2]
    by_cases h : (0 : Int) > k
    · rw [if_pos h, Int.max_eq_right (by omega)]; rfl
    · rw [if_neg h, Int.max_eq_left (by omega)]; rfl
  rw [List.length_append] at hS1 d1 d2 d3 g1 hk
  rw [List.length_append]
  have hen := err_neq_nil
  have hcap' := hcap
  unfold maxLen at hcap'
  have hl' : (gone.length : Int) ≤ (cap : Int) := by omega
  have HS := hide hS1
  have HR := hide hr
  clear hS hS1 hr
  go_enter Try.func35, Try.ntmps35
  go_wp2_with fail
  go_region
  all_goals (go_wp2_with fail; go_ret)
  all_goals exact ⟨_, rfl, ⟨R, cap, G, rfl, (HS.out.set1 _).drew, HR.out.headOf.of_block ((hk _).block R HR.out.lt hRI), hcap, hRG, h1, h2, h3, h4⟩, (hk _).ge h5 (fun k e => by rw [e]; exact h1)⟩

theorem makeRoom23 (base I b : Nat) (bs hd : List Int) (k : Int) (err old v : Value) (w : World) (h : Mid base w I b bs hd k err old v) (hL : (65536 : Int) ≤ (hd.length : Int)) (Q : Value → World → Prop)
    (hc : Calls Try.prog 35 #[.pointer (some ⟨I, 0, none⟩), v] w (fun e w' => ∃ u, e = .returned u ∧ Q u w')) : Calls Try.prog 23 #[.pointer (some ⟨I, 0, none⟩), v] w (fun e w' => ∃ u, e = .returned u ∧ Q u w') := by
  obtain ⟨R, cap, G, rfl, hS, hr, hcap, hRG, h1, h2, h3, h4⟩ := h
  have HC := hide hc
  clear hS hr hc
  have hd1 : decide ((hd.length : Int) < 65536) = false := decide_eq_false (by omega)
  go_enter Try.func23, Try.ntmps23
  go_wp2_with fail
  refine HC.out.mono ?_
  rintro e w' ⟨u, rfl, hq⟩
  have HQ := hide hq
  clear hq
  go_wp2_with fail
  go_ret
  exact ⟨u, rfl, HQ.out⟩

theorem makeRoom28 (I : Nat) (v : Value) (hv : ∃ a l c, v = .slice a l c) (w : World) (Q : Value → World → Prop)
    (hc : Calls Try.prog 35 #[.pointer (some ⟨I, 0, none⟩), v] w (fun e w' => ∃ u, e = .returned u ∧ Q u w')) : Calls Try.prog 28 #[.pointer (some ⟨I, 0, none⟩), v] w (fun e w' => ∃ u, e = .returned u ∧ Q u w') := by
  obtain ⟨a, l, c, rfl⟩ := hv
  have HC := hide hc
  clear hc
  go_enter Try.func28, Try.ntmps28
  go_wp2_with fail
  refine HC.out.mono ?_
  rintro e w' ⟨u, rfl, hq⟩
  have HQ := hide hq
  clear hq
  go_wp2_with fail
  go_ret
  exact ⟨u, rfl, HQ.out⟩

theorem Mid.isBuffer {base : Nat} {w : World} {I b : Nat} {bs hd : List Int} {k : Int} {err old v : Value} (h : Mid base w I b bs hd k err old v) : Lib.IsBuffer 57 5 base b (U8 bs) w := by
  obtain ⟨R, cap, G, rfl, hS, hr, hcap, hRG, h1, h2, h3, h4⟩ := h
  rcases hS.has with ⟨⟨lr, s1⟩, s2, rfl⟩ | ⟨g, cap', ⟨lr, s1⟩, ⟨cur, r1, r2, r3, r4⟩, s3, s4, rfl⟩
  · rw [s2]
    exact ⟨h2, _, lr, s1, World.ownsRow_nil _ _ _ _, by simp [Value.ownBlock]⟩
  · exact ⟨h2, _, lr, s1, ⟨by simp, .inr ⟨g, cap', cur, rfl, h4 g rfl, r1, r3, s3, by simpa using r2, by simpa using r4⟩⟩, by simpa [Value.ownBlock] using s4⟩

/-- what has been written out -/
theorem written_any (base I b : Nat) (bs hd : List Int) (k : Int) (err old v : Value) (w : World) (h : Mid base w I b bs hd k err old v) :
    Calls Try.prog 18 #[.pointer (some ⟨b, 0, none⟩)] w fun e w' => ∃ u, e = .returned u ∧ Reads w' u bs ∧ ∃ n, w' = w.drewN n := by
  have HB := hide (Try.Buffer_Bytes base b (U8 bs) w h.isBuffer)
  clear h
  go_enter Try.func18, Try.ntmps18
  go_wp2_with fail
  refine HB.out.mono ?_
  rintro e w' ⟨u, rfl, ho, n, rfl⟩
  go_wp2_with fail
  go_ret
  exact ⟨u, rfl, reads_own ho, n, rfl⟩

theorem Mid.reads {base : Nat} {w : World} {I b : Nat} {bs hd : List Int} {k : Int} {err old v : Value} (h : Mid base w I b bs hd k err old v) : Reads w v hd := by
  obtain ⟨R, cap, G, rfl, hS, hr, hcap, hRG, h1, h2, h3, h4⟩ := h
  have hl : hd.length ≤ cap := by obtain ⟨_, _, _, h, _⟩ := hr; rw [U8_length] at h; exact h
  refine ⟨_, cap, rfl, hl, fun e => by simp at e, fun ad e i hi => ?_⟩
  cases e
  exact hr.cells i _ (by simp [U8, hi])

theorem Mid.drewN {base : Nat} {w : World} {I b : Nat} {bs hd : List Int} {k : Int} {err old v : Value} (h : Mid base w I b bs hd k err old v) (n : Nat) : Mid base (w.drewN n) I b bs hd k err old v := by
  obtain ⟨R, cap, G, rfl, hS, hr, r⟩ := h
  exact ⟨R, cap, G, rfl, ⟨hS.ib, hS.has.of_blocks rfl (fun _ _ => rfl)⟩, hr.of_block rfl, r⟩

/-- what is new above keeps it -/
theorem Mid.later {base : Nat} {w w' : World} {I b : Nat} {bs hd : List Int} {k : Int} {err old v : Value} (h : Mid base w I b bs hd k err old v) (hb : Below w.heap.size w w') : Mid base w' I b bs hd k err old v := by
  obtain ⟨R, cap, G, rfl, hS, hr, r⟩ := h
  exact ⟨R, cap, G, rfl, ⟨hS.ib.of_block (hb.block _ (heap_lt hS.ib)), hS.has.of_blocks (hb.block _ hS.has.lt) (fun g hg => hb.block _ (hS.has.ltG g hg).1)⟩, hr.of_block (hb.block _ hr.lt), r⟩

end Go.Proofs.Qxb6612279a
