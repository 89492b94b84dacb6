import Derived.Test.Qxb6612279aFull
namespace Go.Proofs.Qxb6612279a
open Go.RowKit
set_option linter.unusedVariables false

/-- the ItemBuffer at I over the sink at b (both the call's own, from base on) has written bs out; its field 'buf' is old; the slice v lies in a row of the call's own and reads hd -/
def Mid (base : Nat) (w : World) (I b : Nat) (bs hd : List Int) (k : Int) (err old v : Value) : Prop :=
  ∃ R cap G, v = .slice (some ⟨R, 0, none⟩) hd.length cap ∧ S w I b bs G old k err ∧ Rw w R cap (U8 hd) ∧ cap ≤ maxLen ∧ some R ≠ G ∧ base ≤ I ∧ base ≤ b ∧ base ≤ R ∧ ∀ g, G = some g → base ≤ g

theorem Kept.ge {w w' : World} {may : Nat → Prop} {base : Nat} (h : Kept w w' may) (hB : base ≤ w.heap.size) (hm : ∀ k, may k → base ≤ k) : Below base w w' := h.below hB hm

theorem mid_lt {base : Nat} {w : World} {I b : Nat} {bs hd : List Int} {k : Int} {err old v : Value} (h : Mid base w I b bs hd k err old v) : base ≤ w.heap.size := by
  obtain ⟨R, cap, G, _, h1, _, _, _, h2, _⟩ := h
  have := heap_lt h1.ib
  omega

/-- what a write-out leaves -/
theorem mid_out {base : Nat} {w w1 w' : World} {I b R cap : Nat} {bs gone held : List Int} {G : Option Nat} {err : Value} (h : Out w1 w' I b R cap bs G gone held err) (hk : Kept w w1 (fun k => k = I)) (hcap : cap ≤ maxLen)
    (h1 : base ≤ I) (h2 : base ≤ b) (h3 : base ≤ R) (h4 : ∀ g, G = some g → base ≤ g) (h5 : base ≤ w.heap.size) :
    Mid base w' I b (bs ++ gone) held (-1) err (.slice (some ⟨R, 0, none⟩) held.length cap) (.slice (some ⟨R, 0, none⟩) held.length cap) ∧ Below base w w' := by
  obtain ⟨G', hS, hr, hRG, hG, hk'⟩ := h
  have h6 := hk.size
  refine ⟨⟨R, cap, G', rfl, hS, hr, hcap, hRG, h1, h2, h3, fun g hg => ?_⟩, (hk.trans hk' (may := fun k => k = I ∨ k = b ∨ k = R ∨ some k = G) (fun _ _ e => .inl e) (fun _ _ e => e)).ge h5 ?_⟩
  · rcases hG with rfl | ⟨N, rfl, hN⟩
    · exact h4 g hg
    · cases hg; omega
  · rintro k (rfl | rfl | rfl | e)
    · exact h1
    · exact h2
    · exact h3
    · exact h4 k e.symm

theorem S.set1 {w : World} {I b : Nat} {bs : List Int} {G : Option Nat} {old err : Value} {k : Int} (h : S w I b bs G old k err) (u : Value) : S (w.setCell ⟨I, 1, none⟩ u) I b bs G u k err :=
  ⟨h.ib.set1 u, h.has.of_blocks (heap_setCell_other _ _ _ _ (by exact fun e => h.ne_b e.symm)) (fun g hg => heap_setCell_other _ _ _ _ (by rintro rfl; exact h.ne_G hg.symm))⟩
theorem S.set2 {w : World} {I b : Nat} {bs : List Int} {G : Option Nat} {old err : Value} {k : Int} (h : S w I b bs G old k err) (u : Int) : S (w.setCell ⟨I, 2, none⟩ (.int .i64 u)) I b bs G old u err :=
  ⟨h.ib.set2 u, h.has.of_blocks (heap_setCell_other _ _ _ _ (by exact fun e => h.ne_b e.symm)) (fun g hg => heap_setCell_other _ _ _ _ (by rintro rfl; exact h.ne_G hg.symm))⟩
theorem S.set3 {w : World} {I b : Nat} {bs : List Int} {G : Option Nat} {old err : Value} {k : Int} (h : S w I b bs G old k err) (u : Value) : S (w.setCell ⟨I, 3, none⟩ u) I b bs G old k u :=
  ⟨h.ib.set3 u, h.has.of_blocks (heap_setCell_other _ _ _ _ (by exact fun e => h.ne_b e.symm)) (fun g hg => heap_setCell_other _ _ _ _ (by rintro rfl; exact h.ne_G hg.symm))⟩

/-- Buffer hands back the field -/
theorem buffer_any (I : Nat) (d old err : Value) (k : Int) (w : World) (h : IB w I d old k err) (hv : ∃ a l c, old = .slice a l c) :
    Calls Try.prog 16 #[.pointer (some ⟨I, 0, none⟩)] w fun e w' => e = .returned old ∧ w' = w := by
  obtain ⟨a, l, c, rfl⟩ := hv
  have c1 := h.c1
  clear h
  go_enter Try.func16, Try.ntmps16
  go_wp2
  go_ret
  exact ⟨rfl, rfl⟩

set_option maxRecDepth 100000 in
set_option maxHeartbeats 1000000 in
/-- Done, the event completes an item, and the buffer is full -/
theorem done_full (base I b : Nat) (bs hd : List Int) (k : Int) (old v : Value) (w : World) (h : Mid base w I b bs hd k .nilIface old v) (hL : (65536 : Int) ≤ (hd.length : Int)) (hlim : bs.length + hd.length ≤ 1073741824) :
    Calls Try.prog 17 #[.pointer (some ⟨I, 0, none⟩), v, .bool true] w fun e w' => e = .returned .nilIface ∧ (∃ u, Mid base w' I b (bs ++ hd) [] (-1) .nilIface u u) ∧ Below base w w' := by
  have h5 := mid_lt h
  obtain ⟨R, cap, G, rfl, hS, hr, hcap, hRG, h1, h2, h3, h4⟩ := h
  have hk : Kept w ((w.setCell ⟨I, 1, none⟩ (.slice (some ⟨R, 0, none⟩) hd.length cap)).setCell ⟨I, 2, none⟩ (.int .i64 hd.length)) (fun k => k = I) := (Kept.set I 1 _).trans (Kept.set I 2 _) (fun _ _ e => e) (fun _ _ e => e)
  have hRI := hr.ne_ib hS.ib
  have c1 := hS.ib.c1
  have f1 := hS.ib.fz 1
  have hS1 := hS.set1 (.slice (some ⟨R, 0, none⟩) hd.length cap)
  have d1 := hS1.ib.c1
  have d2 := hS1.ib.c2
  have g2 := hS1.ib.fz 2
  have hS2 := hS1.set2 hd.length
  have e1 := hS2.ib.c1
  have hr2 := hr.of_block (hk.block R hr.lt hRI)
  have HF := hide (writeFull_whole I R b cap bs hd [] G .nilIface _ (by simpa using hS2) (by rw [List.append_nil]; exact hr2) hcap hRG hlim)
  have hd1 : decide ((65536 : Int) ≤ (hd.length : Int)) = true := decide_eq_true hL
  have hlen : hd.length ≤ cap := by obtain ⟨_, _, _, h, _⟩ := hr; rw [U8_length] at h; exact h
  have hcap' := hcap
  unfold maxLen at hcap'
  clear hS hS1 hS2 hr hr2
  go_enter Try.func17, Try.ntmps17
  go_wp2_with fail
  refine HF.out.mono ?_
  rintro e w3 ⟨rfl, ho⟩
  obtain ⟨m1, m2⟩ := mid_out ho hk hcap h1 h2 h3 h4 h5
  have q3 : w3.cell? ⟨I, 3, none⟩ = some .nilIface := by obtain ⟨_, _, _, _, m, _⟩ := m1; exact m.ib.c3
  go_wp2_with fail
  go_ret
  exact ⟨rfl, ⟨_, m1⟩, m2⟩

set_option maxRecDepth 100000 in
set_option maxHeartbeats 1000000 in
/-- Done, the event completes an item, and the buffer is not full -/
theorem done_held (base I b : Nat) (bs hd : List Int) (k : Int) (err old v : Value) (hi : err.oneCell' = true) (w : World) (h : Mid base w I b bs hd k err old v) (hL : (hd.length : Int) < 65536) :
    Calls Try.prog 17 #[.pointer (some ⟨I, 0, none⟩), v, .bool true] w fun e w' => e = .returned err ∧ Mid base w' I b bs hd hd.length err v v ∧ Below base w w' := by
  have h5 := mid_lt h
  obtain ⟨R, cap, G, rfl, hS, hr, hcap, hRG, h1, h2, h3, h4⟩ := h
  have hk : Kept w ((w.setCell ⟨I, 1, none⟩ (.slice (some ⟨R, 0, none⟩) hd.length cap)).setCell ⟨I, 2, none⟩ (.int .i64 hd.length)) (fun k => k = I) := (Kept.set I 1 _).trans (Kept.set I 2 _) (fun _ _ e => e) (fun _ _ e => e)
  have hRI := hr.ne_ib hS.ib
  have c1 := hS.ib.c1
  have f1 := hS.ib.fz 1
  have hS1 := hS.set1 (.slice (some ⟨R, 0, none⟩) hd.length cap)
  have d1 := hS1.ib.c1
  have d2 := hS1.ib.c2
  have g2 := hS1.ib.fz 2
  have hS2 := hS1.set2 hd.length
  have e1 := hS2.ib.c1
  have e3 := hS2.ib.c3
  have hr2 := hr.of_block (hk.block R hr.lt hRI)
  have hd1 : decide ((65536 : Int) ≤ (hd.length : Int)) = false := decide_eq_false (by omega)
  have hlen : hd.length ≤ cap := by obtain ⟨_, _, _, h, _⟩ := hr; rw [U8_length] at h; exact h
  have hcap' := hcap
  unfold maxLen at hcap'
  have HS2 := hide hS2
  have HR2 := hide hr2
  have HK := hide hk
  clear hS hS1 hS2 hr hr2 hk hL
  go_enter Try.func17, Try.ntmps17
  go_wp2_with fail
  go_ret
  exact ⟨rfl, ⟨R, cap, G, rfl, HS2.out, HR2.out, hcap, hRG, h1, h2, h3, h4⟩, HK.out.ge h5 (fun k e => by rw [e]; exact h1)⟩

end Go.Proofs.Qxb6612279a
