import Derived.Test.Qxb6612279aSinkB
import Derived.Test.Qxb6612279aSinkC
import Derived.Laws.IdiomCopy
import Derived.Laws.CopyRow
namespace Go.Proofs.Qxb6612279a
open Go.RowKit
set_option linter.unusedVariables false

/-- what has been kept: all old blocks but those that 'may' turn -/
structure Kept (w w' : World) (may : Nat → Prop) : Prop where
  os : w'.os = w.os
  tape : w'.tape = w.tape
  output : w'.output = w.output
  size : w.heap.size ≤ w'.heap.size
  block : ∀ k, k < w.heap.size → ¬ may k → w'.heap[k]? = w.heap[k]?

theorem Kept.refl (w : World) (may : Nat → Prop) : Kept w w may := ⟨rfl, rfl, rfl, Nat.le_refl _, fun _ _ _ => rfl⟩

theorem Kept.trans {w w1 w2 : World} {m1 m2 may : Nat → Prop} (h : Kept w w1 m1) (k : Kept w1 w2 m2) (e1 : ∀ i, i < w.heap.size → m1 i → may i) (e2 : ∀ i, i < w.heap.size → m2 i → may i) : Kept w w2 may :=
  ⟨k.os.trans h.os, k.tape.trans h.tape, k.output.trans h.output, Nat.le_trans h.size k.size, fun i hi hn =>
    (k.block i (Nat.lt_of_lt_of_le hi h.size) (fun e => hn (e2 i hi e))).trans (h.block i hi (fun e => hn (e1 i hi e)))⟩

theorem Kept.of_grown {w w' : World} {b : Nat} (h : w.grownBy w' (some b)) : Kept w w' (fun k => k = b) :=
  ⟨h.os, h.tape, h.output, h.size, fun k hk hn => h.block k hk (fun e => hn (Option.some.inj e))⟩

theorem Kept.of_below {w w' : World} (h : Below w.heap.size w w') : Kept w w' (fun _ => False) :=
  ⟨h.os, h.tape, h.output, h.size, fun k hk _ => h.block k hk⟩

theorem Kept.below {w w' : World} {may : Nat → Prop} {B : Nat} (h : Kept w w' may) (hB : B ≤ w.heap.size) (hm : ∀ k, may k → B ≤ k) : Below B w w' :=
  ⟨h.os, h.tape, h.output, h.size, fun k hk => h.block k (by omega) (fun e => by have := hm k e; omega)⟩

theorem Kept.set {w : World} (b i : Nat) (v : Value) : Kept w (w.setCell ⟨b, i, none⟩ v) (fun k => k = b) :=
  ⟨rfl, rfl, rfl, by simp [World.setCell], fun k _ hn => heap_setCell_other w ⟨b, i, none⟩ k v hn⟩

theorem Kept.setRow {w : World} (g : Nat) (cs : Array Value) : Kept w (w.setRow g cs) (fun k => k = g) :=
  ⟨rfl, rfl, rfl, by simp [World.setRow], fun k _ hn => setRow_other w g k cs hn⟩

theorem Kept.drewN (w : World) (n : Nat) : Kept w (w.drewN n) (fun _ => False) := ⟨rfl, rfl, rfl, Nat.le_refl _, fun _ _ _ => rfl⟩

theorem Kept.cell {w w' : World} {may : Nat → Prop} (h : Kept w w' may) {a : Addr} {v : Value} (hc : w.cell? a = some v) (hn : ¬ may a.block) : w'.cell? a = some v := by
  have hlt : a.block < w.heap.size := by
    simp only [World.cell?] at hc
    by_cases hh : a.block < w.heap.size
    · exact hh
    · rw [Array.getElem?_eq_none (by omega)] at hc; simp at hc
  rw [World.cell?_of_block (w := w) (h.block _ hlt hn)]
  exact hc

/-- the bytes.Buffer at block b holds bs, in the row G -/
def Has (w : World) (b : Nat) (bs : List Value) (G : Option Nat) : Prop :=
  (Sk w b (.slice none 0 0) ∧ bs = [] ∧ G = none) ∨ ∃ g cap, Sk w b (.slice (some ⟨g, 0, none⟩) bs.length cap) ∧ Rw w g cap bs ∧ cap ≤ maxLen ∧ g ≠ b ∧ G = some g

theorem Has.of_blocks {w w' : World} {b : Nat} {bs : List Value} {G : Option Nat} (h : Has w b bs G) (hb : w'.heap[b]? = w.heap[b]?) (hg : ∀ g, G = some g → w'.heap[g]? = w.heap[g]?) : Has w' b bs G := by
  rcases h with ⟨h1, h2, h3⟩ | ⟨g, cap, h1, h2, h3, h4, h5⟩
  · exact .inl ⟨h1.of_block hb, h2, h3⟩
  · exact .inr ⟨g, cap, h1.of_block hb, h2.of_block (hg g h5), h3, h4, h5⟩

theorem Has.lt {w : World} {b : Nat} {bs : List Value} {G : Option Nat} (h : Has w b bs G) : b < w.heap.size := by
  rcases h with ⟨h1, _⟩ | ⟨g, cap, h1, _⟩
  · exact h1.lt
  · exact h1.lt

theorem Has.ltG {w : World} {b : Nat} {bs : List Value} {G : Option Nat} (h : Has w b bs G) : ∀ g, G = some g → g < w.heap.size ∧ g ≠ b := by
  rcases h with ⟨_, _, rfl⟩ | ⟨g, cap, _, h2, _, h4, rfl⟩
  · simp
  · intro g' e
    cases e
    exact ⟨h2.lt, h4⟩

theorem Rw.write {w : World} {g cap : Nat} {bs cs : List Value} (h : Rw w g cap bs) (hf : bs.length + cs.length ≤ cap) :
    ∃ cur : Array Value, w.heap[g]? = some (.cells cur 5 (0, 0)) ∧ cur.size = cap ∧ Rw (w.setRow g (cur.toList.take bs.length ++ cs ++ cur.toList.drop (bs.length + cs.length)).toArray) g cap (bs ++ cs) := by
  obtain ⟨cur, hg, hs, hl, ht⟩ := h
  refine ⟨cur, hg, hs, _, setRow_heap w g cur _ 5 _ hg, ?_, by simp; omega, ?_⟩
  · simp; omega
  · rw [ht]
    exact List.take_left' rfl

set_option maxRecDepth 100000 in
set_option maxHeartbeats 1000000 in
/-- Write of no byte -/
theorem write_none (b c : Nat) (a : Option Addr) (bs : List Value) (G : Option Nat) (w : World) (h : Has w b bs G) :
    Calls Try.prog 59 #[.pointer (some ⟨b, 0, none⟩), .slice a 0 c] w fun e w' => e = .returned (.tuple #[.int .i64 0, .nilIface]) ∧ Has w' b bs G ∧ Kept w w' (fun k => k = b) := by
  have hsz : (Try.prog.info? 5).map (·.size) = some 1 := by kernel_rfl
  have hce : ∀ d dLen dCap W, (Builtin.copy_ #[22, 22] 3 #[.slice d dLen dCap, .slice a 0 c]).run Try.prog W = .ok (goInt 0) W := fun d dLen dCap W => run_copy_none W 22 22 3 5 d a dLen dCap 0 c Try.underlying22 hsz (by simp)
  rcases h with ⟨h1, rfl, rfl⟩ | ⟨g, cap, h1, h2, h3, h4, rfl⟩
  · have c2 : ∃ lr, w.cell? ⟨b, 2, none⟩ = some (.int .i8 lr) := by obtain ⟨lr, h⟩ := h1; exact ⟨lr, by simp [World.cell?, h]⟩
    obtain ⟨lr, c2⟩ := c2
    have f2 := h1.fz 2
    have H1 := hide (h1.set2 0)
    have HT := hide (fun W h => tryGrow_room b none 0 0 0 W h (Nat.le_refl _) (by unfold maxLen; omega) (by omega))
    clear h1
    go_enter Try.func59, Try.ntmps59
    go_wp2_with fail
    refine (HT.out _ H1.out).mono ?_
    rintro e W1 ⟨rfl, rfl⟩
    have d0 := (H1.out.set0 (.slice none (0 + 0) 0)).c0
    go_wp2_with fail
    go_ret2
    exact ⟨rfl, .inl ⟨H1.out.set0 _, rfl, rfl⟩, (Kept.set b 2 _).trans (Kept.set b 0 _) (fun _ _ e => e) (fun _ _ e => e)⟩
  · have c2 : ∃ lr, w.cell? ⟨b, 2, none⟩ = some (.int .i8 lr) := by obtain ⟨lr, h⟩ := h1; exact ⟨lr, by simp [World.cell?, h]⟩
    obtain ⟨lr, c2⟩ := c2
    have f2 := h1.fz 2
    have H1 := hide (h1.set2 0)
    have hl : bs.length ≤ cap := by obtain ⟨_, _, _, h, _⟩ := h2; exact h
    have HT := hide (fun W h => tryGrow_room b (some ⟨g, 0, none⟩) bs.length cap 0 W h hl h3 (by omega))
    clear h1
    unfold maxLen at h3
    go_enter Try.func59, Try.ntmps59
    go_wp2_with fail
    refine (HT.out _ H1.out).mono ?_
    rintro e W1 ⟨rfl, hW1⟩
    have hS : Sk W1 b (.slice (some ⟨g, 0, none⟩) bs.length cap) := by rw [hW1]; exact H1.out.set0 _
    have hk : Kept w W1 (fun k => k = b) := by rw [hW1]; exact (Kept.set b 2 _).trans (Kept.set b 0 _) (fun _ _ e => e) (fun _ _ e => e)
    have d0 := hS.c0
    have HS := hide hS
    clear hW1 hS
    go_wp2_with fail
    all_goals go_ret2
    all_goals exact ⟨rfl, .inr ⟨g, cap, HS.out, h2.of_block (hk.block g h2.lt h4), by unfold maxLen; omega, h4, rfl⟩, hk⟩

set_option maxRecDepth 100000 in
set_option maxHeartbeats 1000000 in
/-- Write where there is room in the row -/
theorem write_room (b n c g cap : Nat) (a : Addr) (bs cs : List Value) (w : World) (h1 : Sk w b (.slice (some ⟨g, 0, none⟩) bs.length cap)) (h2 : Rw w g cap bs) (h3 : cap ≤ maxLen) (h4 : g ≠ b)
    (hn : cs.length = n) (hn1 : 1 ≤ n) (hroom : n ≤ cap - bs.length) (hab : a.block ≠ b) (hsrc : ∀ j v, cs[j]? = some v → w.cell? (a.add j) = some v) (hc1 : ∀ v ∈ cs, v.oneCell' = true) :
    Calls Try.prog 59 #[.pointer (some ⟨b, 0, none⟩), .slice (some a) n c] w fun e w' => e = .returned (.tuple #[.int .i64 n, .nilIface]) ∧ Has w' b (bs ++ cs) (some g) ∧ Kept w w' (fun k => k = b ∨ k = g) := by
  have hsz : (Try.prog.info? 5).map (·.size) = some 1 := by kernel_rfl
  obtain ⟨lr, c2⟩ : ∃ lr, w.cell? ⟨b, 2, none⟩ = some (.int .i8 lr) := by obtain ⟨lr, h⟩ := h1; exact ⟨lr, by simp [World.cell?, h]⟩
  have f2 := h1.fz 2
  have H1 := hide (h1.set2 0)
  have hl : bs.length ≤ cap := by obtain ⟨_, _, _, h, _⟩ := h2; exact h
  have HT := hide (fun W h => tryGrow_room b (some ⟨g, 0, none⟩) bs.length cap n W h hl h3 hroom)
  have h3' := h3
  unfold maxLen at h3'
  have hk : Kept w ((w.setCell ⟨b, 2, none⟩ (.int .i8 0)).setCell ⟨b, 0, none⟩ (.slice (some ⟨g, 0, none⟩) (bs.length + n) cap)) (fun k => k = b) := (Kept.set b 2 _).trans (Kept.set b 0 _) (fun _ _ e => e) (fun _ _ e => e)
  have hS := H1.out.set0 (.slice (some ⟨g, 0, none⟩) (bs.length + n) cap)
  obtain ⟨W1, hW1⟩ : ∃ W1, W1 = (w.setCell ⟨b, 2, none⟩ (.int .i8 0)).setCell ⟨b, 0, none⟩ (.slice (some ⟨g, 0, none⟩) (bs.length + n) cap) := ⟨_, rfl⟩
  rw [← hW1] at hk hS
  have hR : Rw W1 g cap bs := h2.of_block (hk.block g h2.lt h4)
  obtain ⟨cur, hg, hcs, hR2⟩ := hR.write (cs := cs) (by omega)
  have hcp := run_copy_row (P := Try.prog) W1 22 22 3 5 g bs.length n (cap - bs.length) a n c cur 5 cs Try.underlying22 hsz hg (by rw [hn]; exact (Nat.min_self n).symm)
    (fun j v hj => hk.cell (hsrc j v hj) (by rw [show (a.add j).block = a.block from by unfold Addr.add; split <;> rfl]; exact hab)) (by rw [hn]; omega) hc1
  rw [hn] at hcp hR2
  have d0 := hS.c0
  have hne : ¬ cap = bs.length := by omega
  have HW1 := hide hW1
  have HS := hide hS
  have HR2 := hide hR2
  have HK := hide hk
  clear hW1 hS hR2 hk hR hg h1 h2
  go_enter Try.func59, Try.ntmps59
  go_wp2_with fail
  refine (HT.out _ H1.out).mono ?_
  rw [← HW1.out]
  rintro e W2 ⟨rfl, rfl⟩
  go_wp2_with fail
  go_ret2
  refine ⟨rfl, .inr ⟨g, cap, ?_, (by have := HR2.out; rwa [List.append_assoc] at this), h3, h4, rfl⟩, HK.out.trans (Kept.setRow g _) (fun _ _ e => Or.inl e) (fun _ _ e => Or.inr e)⟩
  rw [List.length_append, hn]
  exact HS.out.of_block (setRow_other _ _ _ _ (fun e => h4 e.symm))


set_option maxRecDepth 100000 in
set_option maxHeartbeats 1000000 in
/-- Write where the buffer grows: what grow leaves is handed in -/
theorem write_grow (b n c : Nat) (a : Addr) (v : Value) (bs cs : List Value) (w : World) (h1 : Sk w b v) (ao : Option Addr) (l0 cap0 : Nat) (hv : v = .slice ao l0 cap0) (hl0 : l0 = bs.length) (hlc : l0 ≤ cap0) (hcm : cap0 ≤ maxLen) (hbl : bs.length + n ≤ 1073741824)
    (hgrow : ∀ W, Kept w W (fun k => k = b) → Sk W b v → Calls Try.prog 61 #[.pointer (some ⟨b, 0, none⟩), .int .i64 n] W fun e w' => e = .returned (.int .i64 bs.length) ∧ ∃ N cap2, W.heap.size ≤ N ∧ Sk w' b (.slice (some ⟨N, 0, none⟩) (bs.length + n) cap2) ∧ bs.length + n ≤ cap2 ∧ cap2 ≤ maxLen ∧ Rw w' N cap2 bs ∧ W.grownBy w' (some b))
    (hn : cs.length = n) (hn1 : 1 ≤ n) (hroom : cap0 - l0 < n) (hab : a.block ≠ b) (hsrc : ∀ j v, cs[j]? = some v → w.cell? (a.add j) = some v) (hc1 : ∀ v ∈ cs, v.oneCell' = true) :
    Calls Try.prog 59 #[.pointer (some ⟨b, 0, none⟩), .slice (some a) n c] w fun e w' => e = .returned (.tuple #[.int .i64 n, .nilIface]) ∧ ∃ N, w.heap.size ≤ N ∧ Has w' b (bs ++ cs) (some N) ∧ Kept w w' (fun k => k = b) := by
  have hsz : (Try.prog.info? 5).map (·.size) = some 1 := by kernel_rfl
  obtain ⟨lr, c2⟩ : ∃ lr, w.cell? ⟨b, 2, none⟩ = some (.int .i8 lr) := by obtain ⟨lr, h⟩ := h1; exact ⟨lr, by simp [World.cell?, h]⟩
  have f2 := h1.fz 2
  have H1 := hide (h1.set2 0)
  have HT := hide (fun W h => tryGrow_none b ao l0 cap0 n W h hlc hcm hroom)
  have HG := hide (hgrow _ (Kept.set b 2 (.int .i8 0)) (h1.set2 0))
  have HV := hide hv
  have HL0 := hide hl0
  clear hgrow h1 hv hl0
  go_enter Try.func59, Try.ntmps59
  go_wp2_with fail
  refine (HT.out _ (by have := H1.out; rwa [HV.out] at this)).mono ?_
  rintro e W1 ⟨rfl, rfl⟩
  go_wp2_with fail
  refine HG.out.mono ?_
  rintro e W2 ⟨rfl, N, cap2, hN, hS, hc2, hcm2, hR, hgr⟩
  have hbN : N ≠ b := by
    have : b < w.heap.size := by obtain ⟨_, h⟩ := H1.out; have := heap_lt h; simpa [World.setCell] using this
    have h2 : (w.setCell ⟨b, 2, none⟩ (.int .i8 0)).heap.size = w.heap.size := by simp [World.setCell]
    omega
  have hk : Kept w W2 (fun k => k = b) := (Kept.set b 2 _).trans (Kept.of_grown hgr) (fun _ _ e => e) (fun _ _ e => e)
  have hN' : w.heap.size ≤ N := by simpa [World.setCell] using hN
  obtain ⟨cur, hg, hcs, hR2⟩ := hR.write (cs := cs) (by omega)
  have hcp := run_copy_row (P := Try.prog) W2 22 22 3 5 N bs.length n (cap2 - bs.length) a n c cur 5 cs Try.underlying22 hsz hg (by rw [hn]; exact (Nat.min_self n).symm)
    (fun j v hj => hk.cell (hsrc j v hj) (by rw [show (a.add j).block = a.block from by unfold Addr.add; split <;> rfl]; exact hab)) (by rw [hn]; omega) hc1
  rw [hn] at hcp hR2
  have d0 := hS.c0
  have hne : ¬ cap2 = bs.length := by omega
  have HS := hide hS
  have HR2 := hide hR2
  have HK := hide hk
  have hcm2' := hcm2
  unfold maxLen at hcm2'
  clear hS hR2 hk hR hg hgr
  go_wp2_with fail
  go_ret2
  refine ⟨rfl, N, hN', .inr ⟨N, cap2, ?_, (by have := HR2.out; rwa [List.append_assoc] at this), hcm2, hbN, rfl⟩, HK.out.trans (Kept.setRow N _) (fun _ _ e => e) (fun i hi e => absurd e (by omega))⟩
  rw [List.length_append, hn]
  exact HS.out.of_block (setRow_other _ _ _ _ (fun e => hbN e.symm))

/-- Write, whatever the buffer holds, wherever p lies -/
theorem write_any (b n c : Nat) (a : Addr) (bs cs : List Value) (G : Option Nat) (w : World) (h : Has w b bs G) (h1 : ∀ v ∈ bs, v.oneCell' = true)
    (hn : cs.length = n) (hab : a.block ≠ b) (hsrc : ∀ j v, cs[j]? = some v → w.cell? (a.add j) = some v) (hc1 : ∀ v ∈ cs, v.oneCell' = true) (hlim : bs.length + n ≤ 1073741824) :
    Calls Try.prog 59 #[.pointer (some ⟨b, 0, none⟩), .slice (some a) n c] w fun e w' => e = .returned (.tuple #[.int .i64 n, .nilIface]) ∧ ∃ G', (G' = G ∨ ∃ N, G' = some N ∧ w.heap.size ≤ N) ∧ Has w' b (bs ++ cs) G' ∧ Kept w w' (fun k => k = b ∨ some k = G) := by
  by_cases hn0 : n = 0
  · have hc0 : cs = [] := List.eq_nil_of_length_eq_zero (by omega)
    subst hn0 hc0
    refine (write_none b c (some a) bs G w h).mono ?_
    rintro e w' ⟨rfl, hh, hk⟩
    exact ⟨rfl, G, .inl rfl, by simpa using hh, hk.trans (Kept.refl _ (fun _ => False)) (fun _ _ e => .inl e) (fun _ _ e => e.elim)⟩
  · rcases h with ⟨s1, rfl, rfl⟩ | ⟨g, cap, s1, s2, s3, s4, rfl⟩
    · have fin : ∀ (e : Ending) w', (e = .returned (.tuple #[.int .i64 n, .nilIface]) ∧ ∃ N, w.heap.size ≤ N ∧ Has w' b ([] ++ cs) (some N) ∧ Kept w w' (fun k => k = b)) →
          (e = .returned (.tuple #[.int .i64 n, .nilIface]) ∧ ∃ G' : Option Nat, (G' = none ∨ ∃ N, G' = some N ∧ w.heap.size ≤ N) ∧ Has w' b ([] ++ cs) G' ∧ Kept w w' (fun k => k = b ∨ some k = none)) := by
        rintro e w' ⟨rfl, N, hN, hh, hk⟩
        exact ⟨rfl, some N, .inr ⟨N, rfl, hN⟩, hh, hk.trans (Kept.refl _ (fun _ => False)) (fun _ _ e => .inl e) (fun _ _ e => e.elim)⟩
      by_cases h64 : n ≤ 64
      · refine (write_grow b n c a _ [] cs w s1 none 0 0 rfl rfl (Nat.le_refl _) (by unfold maxLen; omega) hlim (fun W _ hS => ?_) hn (by omega) (by omega) hab hsrc hc1).mono fin
        simpa using grow_nil_small b n W hS (by omega) (by omega)
      · refine (write_grow b n c a _ [] cs w s1 none 0 0 rfl rfl (Nat.le_refl _) (by unfold maxLen; omega) hlim (fun W _ hS => ?_) hn (by omega) (by omega) hab hsrc hc1).mono fin
        simpa using grow_nil_big b n W hS (by omega) (by simpa using hlim)
    · have hl : bs.length ≤ cap := by obtain ⟨_, _, _, h, _⟩ := s2; exact h
      by_cases hr : n ≤ cap - bs.length
      · refine (write_room b n c g cap a bs cs w s1 s2 s3 s4 hn (by omega) hr hab hsrc hc1).mono ?_
        rintro e w' ⟨rfl, hh, hk⟩
        exact ⟨rfl, some g, .inl rfl, hh, hk.trans (Kept.refl _ (fun _ => False)) (fun _ _ e => e.imp id (fun e => by rw [e])) (fun _ _ e => e.elim)⟩
      · refine (write_grow b n c a _ bs cs w s1 (some ⟨g, 0, none⟩) bs.length cap rfl rfl hl s3 hlim (fun W hk hS => ?_) hn (by omega) (by omega) hab hsrc hc1).mono ?_
        · exact grow_row b g bs.length cap n bs W hS (s2.of_block (hk.block g s2.lt s4)) rfl h1 (by omega) (by omega) hlim s4
        · rintro e w' ⟨rfl, N, hN, hh, hk⟩
          exact ⟨rfl, some N, .inr ⟨N, rfl, hN⟩, hh, hk.trans (Kept.refl _ (fun _ => False)) (fun _ _ e => .inl e) (fun _ _ e => e.elim)⟩

end Go.Proofs.Qxb6612279a
