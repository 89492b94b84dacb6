import Derived.Test.Qxb6613843aMain
import Derived.Lib.Builder
namespace Go.Proofs.Qxb6613843a
open Go.RowKit
set_option linter.unusedVariables false

theorem info21 : (Try.prog.info? 21).map (fun i => (i.zero, i.size, i.bytes)) = some (some (.int .i32 0), 1, 4) := by kernel_rfl
theorem info32 : (Try.prog.info? 32).map (fun i => (i.zero, i.size, i.bytes)) = some (some (.int .u16 0), 1, 2) := by kernel_rfl
theorem info4 : (Try.prog.info? 4).map (fun i => (i.zero, i.size, i.bytes)) = some (some (.bool false), 1, 1) := by kernel_rfl

theorem made_heap (w : World) (z : Value) (n : Nat) (e : TypeId) : (w.alloc (.cells (madeCells #[z] n) e)).heap[w.heap.size]? = some (.cells (List.replicate n z).toArray e (0, 0)) := by
  rw [Deep.blk_alloc_new]
  have : madeCells #[z] n = (List.replicate n z).toArray := by
    apply Array.ext'
    rw [toList_madeCells_one]
  rw [this]

theorem cp_nil (B : Nat) (wx : World) (F : Nat → Value) : Cp B wx (.slice none 0 0) 0 F := ⟨_, _, rfl, fun h => absurd h (by omega)⟩

theorem src_cells {w wx : World} {x : Addr} {len cap : Nat} {F : Nat → Value} (h : ∀ i, i < len → w.cell? (x.add i) = some (F i)) (hb : Below w.heap.size w wx) :
    0 < ((List.range len).map F).length → ∃ ad, some x = some ad ∧ ∀ j v, ((List.range len).map F)[j]? = some v → wx.cell? (ad.add j) = some v := by
  intro hl
  refine ⟨x, rfl, fun j v hj => ?_⟩
  simp only [List.length_map, List.length_range] at hl
  by_cases hjl : j < len
  · simp [hjl] at hj
    subst hj
    have h0 := h j hjl
    have hlt : (x.add j).block < w.heap.size := by
      simp only [World.cell?] at h0
      by_cases hc : (x.add j).block < w.heap.size
      · exact hc
      · rw [Array.getElem?_eq_none (by omega)] at h0; simp at h0
    rw [hb.cell hlt]
    exact h0
  · simp [hjl] at hj

theorem one_of {F : Nat → Value} (h : ∀ i, (F i).oneCell' = true) (len : Nat) : ∀ v ∈ (List.range len).map F, v.oneCell' = true := by
  intro v hv
  obtain ⟨i, _, rfl⟩ := List.mem_map.1 hv
  exact h i

/-- 'copy(zzc, xs)' into the row just made, of the same length -/
theorem copy_fresh (w : World) (t e ty : TypeId) (z : Value) (len cap : Nat) (x : Addr) (F : Nat → Value) (hu : Try.prog.underlying t = some (.slice e)) (hsz : (Try.prog.info? e).map (·.size) = some 1)
    (ho : ∀ i, (F i).oneCell' = true) (h : ∀ i, i < len → w.cell? (x.add i) = some (F i)) :
    ∃ W2, (Builtin.copy_ #[t, t] ty #[.slice (some ⟨w.heap.size, 0, none⟩) len len, .slice (some x) len cap]).run Try.prog (w.alloc (.cells (madeCells #[z] len) e)) = .ok (.int .i64 len) W2 ∧
      Cp w.heap.size W2 (.slice (some ⟨w.heap.size, 0, none⟩) len len) len F ∧ Below w.heap.size w W2 := by
  have hb : Below w.heap.size w (w.alloc (.cells (madeCells #[z] len) e)) := (Below.refl _ _).alloc (Nat.le_refl _) _
  have hg := made_heap w z len e
  have hsrc : ∀ j v, ((List.range len).map F)[j]? = some v → (w.alloc (.cells (madeCells #[z] len) e)).cell? (x.add j) = some v := by
    intro j v hj
    by_cases hl : 0 < len
    · obtain ⟨ad, hx, hh⟩ := src_cells (cap := cap) h hb (by simpa using hl)
      cases hx
      exact hh j v hj
    · have : len = 0 := by omega
      subst this
      simp at hj
  have hrun := run_copy_row (P := Try.prog) (w.alloc (.cells (madeCells #[z] len) e)) t t ty e w.heap.size 0 len len x len cap _ e ((List.range len).map F) hu hsz hg (by simp) hsrc (by simp) (one_of ho len)
  have e0 : (List.take 0 (List.replicate len z).toArray.toList ++ List.map F (List.range len) ++ List.drop (0 + (List.map F (List.range len)).length) (List.replicate len z).toArray.toList).toArray = (List.map F (List.range len)).toArray := by simp
  rw [e0] at hrun
  have hset := setRow_heap (w.alloc (.cells (madeCells #[z] len) e)) w.heap.size _ (List.map F (List.range len)).toArray e _ hg
  refine ⟨(w.alloc (.cells (madeCells #[z] len) e)).setRow w.heap.size (List.map F (List.range len)).toArray, ?_, ?_, below_setRow hb (Nat.le_refl _) _⟩
  · rw [hrun]; simp [goInt]
  · refine ⟨_, _, rfl, fun hl => ⟨w.heap.size, rfl, rfl, Nat.le_refl _, ?_, fun j hj => ?_⟩⟩
    · exact (Array.getElem?_eq_some_iff.1 hset).1
    · simp only [World.cell?, hset]
      simp [hj]

theorem Cp.base {B B' : Nat} {wx : World} {v : Value} {len : Nat} {F : Nat → Value} (h : Cp B wx v len F) (hb : B' ≤ B) : Cp B' wx v len F := by
  obtain ⟨a, c, rfl, hc⟩ := h
  refine ⟨a, c, rfl, fun hl => ?_⟩
  obtain ⟨g, rfl, rfl, h1, h2, h3⟩ := hc hl
  exact ⟨g, rfl, rfl, by omega, h2, h3⟩

theorem Src.later {w wx : World} {a : Option Addr} {len cap : Nat} {F : Nat → Value} (h : Src w a len cap F) (hb : Below w.heap.size w wx) : Src wx a len cap F := by
  obtain ⟨ho, h⟩ := h
  refine ⟨ho, ?_⟩
  rcases h with h | ⟨x, rfl, h1, h2, h3⟩
  · exact .inl h
  · refine .inr ⟨x, rfl, h1, h2, fun i hi => ?_⟩
    have h0 := h3 i hi
    have hlt : (x.add i).block < w.heap.size := by
      simp only [World.cell?] at h0
      by_cases hc : (x.add i).block < w.heap.size
      · exact hc
      · rw [Array.getElem?_eq_none (by omega)] at h0; simp at h0
    rw [hb.cell hlt]
    exact h0

theorem info34' : (Try.prog.info? 34).map (·.size) = some 4 := by kernel_rfl

theorem neq_same (a : Addr) (w : World) : (binOp .neq 29 (.pointer (some a)) (.pointer (some a))).run Try.prog w = .ok (.bool false) w := by
  obtain ⟨j, hj, _⟩ := Option.map_eq_some_iff.1 info34'
  exact Lib.run_neq_ptr_same w a Try.underlying29 hj

theorem neq_other (E x y : Nat) (w : World) (cs : Array Value) (hE : w.heap[E]? = some (.cells cs 34 (0, 0))) (h : x ≠ y) :
    (binOp .neq 29 (.pointer (some ⟨E, x, none⟩)) (.pointer (some ⟨E, y, none⟩))).run Try.prog w = .ok (.bool true) w := by
  obtain ⟨j, hj, hs⟩ := Option.map_eq_some_iff.1 info34'
  have hab : (⟨E, x, none⟩ : Addr) ≠ ⟨E, y, none⟩ := fun he => h (by injection he)
  have h1 : ∀ d : Nat, (Op.equalIn (d + 1) 29 (.pointer (some ⟨E, x, none⟩)) (.pointer (some ⟨E, y, none⟩))).run Try.prog w = .ok false w := fun d => by
    simp [Op.equalIn, run_underlying Try.underlying29, sizeOf, typeInfo, hj, hs, run_sameAddr_other w (a := ⟨E, x, none⟩) (b := ⟨E, y, none⟩) hab hE hE]
  simp only [binOp]
  simp [Op.equal, Op.maxDepth, h1 9999]

/-- the slot of line j -/
def slotN (first len j : Nat) : Nat := if len ≤ first + j then first + j - len else first + j

theorem slotN_lt {first len j : Nat} (h1 : first < len) (h2 : j < len) : slotN first len j < len := by unfold slotN; split <;> omega

theorem slotN_inj {first len i j : Nat} (h0 : first < len) (h1 : i < len) (h2 : j < len) (h : slotN first len i = slotN first len j) : i = j := by
  unfold slotN at h
  split at h <;> split at h <;> omega

theorem slotN_cast (first len j : Nat) : (slotN first len j : Int) = slotOf (first + j) len := by
  unfold slotN slotOf
  by_cases h : len ≤ first + j
  · rw [if_pos h, if_pos (by omega)]; omega
  · rw [if_neg h, if_neg (by omega)]; omega

/-- which slots the first i lines have been seen in -/
def seenB (first len i k : Nat) : Bool := (List.range i).any fun j => slotN first len j == k

theorem seenB_new {first len i : Nat} (h0 : first < len) (h1 : i < len) : seenB first len i (slotN first len i) = false := by
  unfold seenB
  rw [List.any_eq_false]
  intro j hj
  have hj := List.mem_range.1 hj
  intro h
  have := slotN_inj h0 (show j < len by omega) h1 (by simpa using h)
  omega

theorem seenB_succ (first len i k : Nat) : seenB first len (i + 1) k = if k = slotN first len i then true else seenB first len i k := by
  unfold seenB
  rw [List.range_succ, List.any_append]
  by_cases h : k = slotN first len i
  · simp [h]
  · have : (slotN first len i == k) = false := by simp; omega
    simp [h, this]

theorem at_first (H E len cap first : Nat) (w : World) (hf : first < len) (hl : len ≤ 1024)
    (c3 : w.cell? ⟨H, 3, none⟩ = some (.slice (some ⟨E, 0, none⟩) len cap))
    (c4 : w.cell? ⟨H, 4, none⟩ = some (.int .i64 first)) :
    Calls Try.prog 8 #[.pointer (some ⟨H, 0, none⟩), .int .i64 0] w
      fun e w' => e = .returned (.pointer (some ⟨E, first * 4, none⟩)) ∧ ∃ m, w' = w.drewN m := by
  simpa using zzat_any H E len cap first 0 first w hf (by omega) hl (by unfold slotOf; rw [if_neg (by omega)]; omega) hf c3 c4

set_option maxRecDepth 100000 in
set_option maxHeartbeats 4000000 in
theorem walk_short (a0 a1 a2 a3 : Option Addr) (l0 c0 l1 c1 l2 c2 l3 c3 : Nat) (x y : Int) (w : World) (f0 f1 f2 : Nat → Int) (f3 : Nat → Bool)
    (h0 : l0 ≤ 1024) (h1 : l1 ≤ 1024) (h2 : l2 ≤ 1024) (h3 : l3 ≤ 1024) (s0 : Src w a0 l0 c0 (fun j => .int .i32 (f0 j))) (s1 : Src w a1 l1 c1 (fun j => .int .i32 (f1 j))) (s2 : Src w a2 l2 c2 (fun j => .int .u16 (f2 j))) (s3 : Src w a3 l3 c3 (fun j => .bool (f3 j))) :
    Calls Try.prog 4 #[.slice a0 l0 c0, .slice a1 l1 c1, .slice a2 l2 c2, .slice a3 l3 c3, .int .i64 x, .int .i64 y] w
      fun e w' => e = .returned (.bool true) ∧ Below w.heap.size w w' := by
  have hb := bytes_any a0 a1 a2 a3 l0 c0 l1 c1 l2 c2 l3 c3 x y w h0 h1 h2 h3
  have HB := hide hb
  clear hb
  have hm0 := fun w => Go.run_make_row' (P := Try.prog) 22 21 _ 4 Try.underlying22 info21 rfl .i64 .i64 l0 (by omega) (by omega) w
  have hm1 := fun w => Go.run_make_row' (P := Try.prog) 22 21 _ 4 Try.underlying22 info21 rfl .i64 .i64 l1 (by omega) (by omega) w
  have hm2 := fun w => Go.run_make_row' (P := Try.prog) 23 32 _ 2 Try.underlying23 info32 rfl .i64 .i64 l2 (by omega) (by omega) w
  have hm3 := fun w => Go.run_make_row' (P := Try.prog) 24 4 _ 1 Try.underlying24 info4 rfl .i64 .i64 l3 (by omega) (by omega) w
  go_enter Try.func4, Try.ntmps4
  go_wp2_with fail
  refine HB.out.mono ?_
  rintro e w' ⟨rfl, rfl⟩
  go_upto_if 44 with fail
  go_cut [0, 13] (fun sl sz wx => Cp w'.heap.size wx sl l0 (fun j => .int .i32 (f0 j)) ∧ Below w'.heap.size w' wx)
  case first =>
    obtain ⟨o0, ⟨rfl, rfl, rfl⟩ | ⟨ad, rfl, q1, q2, q3⟩⟩ := s0
    · go_wp2_with fail
      go_meet
      exact ⟨cp_nil _ _ _, Below.refl _ _⟩
    · obtain ⟨W2, hcp, hC2, hB2⟩ := copy_fresh w' 22 21 3 (.int .i32 0) l0 c0 ad (fun j => .int .i32 (f0 j)) Try.underlying22 (by kernel_rfl) o0 q3
      go_wp2_with fail
      go_meet
      exact ⟨hC2, hB2⟩
  case rest =>
  obtain ⟨hp0, hb0⟩ := hcut
  have t1 := s1.later hb0
  obtain ⟨W0, hW⟩ : ∃ W, W = wc := ⟨_, rfl⟩
  subst hW
  go_upto_if 53 with fail
  go_cut [1, 14] (fun sl sz wx => Cp w'.heap.size wx sl l1 (fun j => .int .i32 (f1 j)) ∧ Below W0.heap.size W0 wx)
  case first =>
    obtain ⟨o0, ⟨rfl, rfl, rfl⟩ | ⟨ad, rfl, q1, q2, q3⟩⟩ := t1
    · go_wp2_with fail
      go_meet
      exact ⟨cp_nil _ _ _, Below.refl _ _⟩
    · obtain ⟨W2, hcp, hC2, hB2⟩ := copy_fresh W0 22 21 3 (.int .i32 0) l1 c1 ad (fun j => .int .i32 (f1 j)) Try.underlying22 (by kernel_rfl) o0 q3
      go_wp2_with fail
      go_meet
      exact ⟨hC2.base hb0.size, hB2⟩
  case rest =>
  obtain ⟨hp1, hd1⟩ := hcut
  have hb1 := hb0.trans (hd1.mono hb0.size)
  replace hp0 := hp0.later hd1
  have t2 := s2.later hb1
  obtain ⟨W1, hW⟩ : ∃ W, W = wc := ⟨_, rfl⟩
  subst hW
  go_upto_if 62 with fail
  go_cut [2, 15] (fun sl sz wx => Cp w'.heap.size wx sl l2 (fun j => .int .u16 (f2 j)) ∧ Below W1.heap.size W1 wx)
  case first =>
    obtain ⟨o0, ⟨rfl, rfl, rfl⟩ | ⟨ad, rfl, q1, q2, q3⟩⟩ := t2
    · go_wp2_with fail
      go_meet
      exact ⟨cp_nil _ _ _, Below.refl _ _⟩
    · obtain ⟨W2, hcp, hC2, hB2⟩ := copy_fresh W1 23 32 3 (.int .u16 0) l2 c2 ad (fun j => .int .u16 (f2 j)) Try.underlying23 (by kernel_rfl) o0 q3
      go_wp2_with fail
      go_meet
      exact ⟨hC2.base hb1.size, hB2⟩
  case rest =>
  obtain ⟨hp2, hd2⟩ := hcut
  have hb2 := hb1.trans (hd2.mono hb1.size)
  replace hp0 := hp0.later hd2
  replace hp1 := hp1.later hd2
  have t3 := s3.later hb2
  obtain ⟨W2, hW⟩ : ∃ W, W = wc := ⟨_, rfl⟩
  subst hW
  go_upto_if 71 with fail
  go_cut [3, 16] (fun sl sz wx => Cp w'.heap.size wx sl l3 (fun j => .bool (f3 j)) ∧ Below W2.heap.size W2 wx)
  case first =>
    obtain ⟨o0, ⟨rfl, rfl, rfl⟩ | ⟨ad, rfl, q1, q2, q3⟩⟩ := t3
    · go_wp2_with fail
      go_meet
      exact ⟨cp_nil _ _ _, Below.refl _ _⟩
    · obtain ⟨W2, hcp, hC2, hB2⟩ := copy_fresh W2 24 4 3 (.bool false) l3 c3 ad (fun j => .bool (f3 j)) Try.underlying24 (by kernel_rfl) o0 q3
      go_wp2_with fail
      go_meet
      exact ⟨hC2.base hb2.size, hB2⟩
  case rest =>
  obtain ⟨hp3, hd3⟩ := hcut
  have hb3 := hb2.trans (hd3.mono hb2.size)
  replace hp0 := hp0.later hd3
  replace hp1 := hp1.later hd3
  replace hp2 := hp2.later hd3
  obtain ⟨W3, hW⟩ : ∃ W, W = wc := ⟨_, rfl⟩
  subst hW
  clear hd1 hd2 hd3 t1 t2 t3 s0 s1 s2 s3 hb0 hb1 hb2 hm0 hm1 hm2 hm3
  obtain ⟨p0, k0, rfl, hp0⟩ := hp0
  obtain ⟨p1, k1, rfl, hp1⟩ := hp1
  obtain ⟨p2, k2, rfl, hp2⟩ := hp2
  obtain ⟨p3, k3, rfl, hp3⟩ := hp3
  have HP0 := hide hp0
  have HP1 := hide hp1
  have HP2 := hide hp2
  have HP3 := hide hp3
  clear hp0 hp1 hp2 hp3
  by_cases e0 : l0 = 0
  · have e0' : ((l0 : Int) == 0) = true := by simp; omega
    go_wp2_with fail
    go_ret
    exact ⟨rfl, hb3⟩
  have e0' : ((l0 : Int) == 0) = false := by simp; omega
  by_cases e1 : l1 = l0
  rotate_left
  · have e1' : ((l1 : Int) != (l0 : Int)) = true := by simp; omega
    go_wp2_with fail
    go_ret
    exact ⟨rfl, hb3⟩
  subst e1
  by_cases e2 : l2 = l1
  rotate_left
  · have e2' : ((l2 : Int) != (l1 : Int)) = true := by simp; omega
    go_wp2_with fail
    go_ret
    exact ⟨rfl, hb3⟩
  subst e2
  by_cases e3 : l3 = l2
  rotate_left
  · have e3' : ((l3 : Int) != (l2 : Int)) = true := by simp; omega
    go_wp2_with fail
    go_ret
    exact ⟨rfl, hb3⟩
  subst e3
  by_cases x0 : x < 0
  · go_wp2_with fail
    go_ret
    exact ⟨rfl, hb3⟩
  by_cases x1 : (l3 : Int) ≤ x
  · go_wp2_with fail
    go_ret
    exact ⟨rfl, hb3⟩
  by_cases y0 : y < 1
  · go_wp2_with fail
    go_ret
    exact ⟨rfl, hb3⟩
  by_cases y1 : (l3 : Int) < y
  · go_wp2_with fail
    go_ret
    exact ⟨rfl, hb3⟩
  obtain ⟨g0, rfl, hk0, gB0, gl0, gc0⟩ := HP0.out (by omega)
  have hk0 := hk0.symm
  subst hk0
  obtain ⟨g1, rfl, hk1, gB1, gl1, gc1⟩ := HP1.out (by omega)
  have hk1 := hk1.symm
  subst hk1
  obtain ⟨g2, rfl, hk2, gB2, gl2, gc2⟩ := HP2.out (by omega)
  have hk2 := hk2.symm
  subst hk2
  obtain ⟨g3, rfl, hk3, gB3, gl3, gc3⟩ := HP3.out (by omega)
  have hk3 := hk3.symm
  subst hk3
  have hn := new_any g0 g1 g2 g3 l3 f0 f1 f2 f3 x y W3 (by omega) gl0 gl1 gl2 gl3 gc0 gc1 gc2 gc3
  have HN := hide hn
  clear hn gc0 gc1 gc2 gc3 HP0 HP1 HP2 HP3
  go_wp2_with fail
  refine HN.out.mono ?_
  rintro e w1 ⟨H, rfl, hH1, hH2, ch3, ch4, hbn, cs, hcs⟩
  obtain ⟨X, rfl⟩ := Int.eq_ofNat_of_zero_le (show 0 ≤ x by omega)
  obtain ⟨Y, rfl⟩ := Int.eq_ofNat_of_zero_le (show 0 ≤ y by omega)
  have hbm : Below w'.heap.size w' w1 := hb3.trans (hbn.mono hb3.size)
  have HA := hide (at_first H W3.heap.size l3 l3 X w1 (by omega) (by omega) ch3 ch4)
  go_wp2_with fail
  refine HA.out.mono ?_
  rintro e w2 ⟨rfl, m2, rfl⟩
  have hsame := neq_same
  go_wp2_with fail
  refine (entry_any H W3.heap.size l3 l3 X _ (by omega) (by omega) (by simpa using ch3)).mono ?_
  rintro e w3 ⟨rfl, rfl⟩
  have hm3 := fun w => Go.run_make_row' (P := Try.prog) 24 4 _ 1 Try.underlying24 info4 rfl .i64 .i64 l3 (by omega) (by omega) w
  go_wp2_with fail
  have hd : Below w1.heap.size w1 (w1.drewN m2) := below_drewN (Below.refl _ _) _
  have hsz : (w1.drewN m2).heap.size = w1.heap.size := by simp
  have hrow0 := World.rowIs_made (w1.drewN m2) (.bool false) l3 4
  rw [hsz] at hrow0
  have hbel0 : Below w1.heap.size w1 ((w1.drewN m2).alloc (.cells (madeCells #[.bool false] l3) 4)) := hd.alloc (by omega) _
  have HR0 := hide hrow0
  have HB0 := hide hbel0
  clear hrow0 hbel0 hd hsz
  go_loopw [20] (fun s20 wr => ∃ i : Nat, i ≤ Y ∧ s20 = .int .i64 i ∧ wr.rowIs w1.heap.size 4 l3 (fun k => .bool (seenB X l3 i k)) ∧ Below w1.heap.size w1 wr) (fun s20 _ => Y - (intOf s20).toNat)
  case atStart => exact ⟨0, Nat.zero_le _, rfl, HR0.out.congr (fun _ _ => by simp [seenB]), HB0.out⟩
  case round =>
    obtain ⟨i, hi, rfl, hrow, hbr⟩ := hrel
    by_cases hlt : i < Y
    · have hc3 : wr.cell? ⟨H, 3, none⟩ = some (.slice (some ⟨W3.heap.size, 0, none⟩) l3 l3) := (hbr.cell (p := ⟨H, 3, none⟩) hH2).trans ch3
      have hc4 : wr.cell? ⟨H, 4, none⟩ = some (.int .i64 X) := (hbr.cell (p := ⟨H, 4, none⟩) hH2).trans ch4
      have hE : wr.heap[W3.heap.size]? = some (.cells cs 34 (0, 0)) := (hbr.block _ (by omega)).trans hcs
      obtain ⟨t, ht⟩ : ∃ t, t = slotN X l3 i := ⟨_, rfl⟩
      have htl : t < l3 := by rw [ht]; exact slotN_lt (by omega) (by omega)
      have hcall := zzat_any H W3.heap.size l3 l3 X i t wr (by omega) (by omega) (by omega) (by rw [ht]; exact slotN_cast _ _ _) htl hc3 hc4
      have hseen : seenB X l3 i t = false := by rw [ht]; exact seenB_new (by omega) (by omega)
      have hcell : wr.cell? ⟨w1.heap.size, t, none⟩ = some (.bool false) := by rw [hrow.cell htl, hseen]
      have hfro : wr.frozen? ⟨w1.heap.size, t, none⟩ = false := hrow.frozen t
      have HT := hide ht
      have HC := hide hcall
      have HROW := hide hrow
      have HNE := hide (fun x (h : x ≠ t * 4) m => neq_other W3.heap.size x (t * 4) (wr.drewN m) cs (by simpa using hE) h)
      have HEN := hide (fun k (h : k < l3) m => entry_any H W3.heap.size l3 l3 k (wr.drewN m) h (by omega) (by simpa using hc3))
      clear ht hcall hseen hrow ch3 ch4 hc4 hE
      go_wp2_with fail
      refine HC.out.mono ?_
      rintro e w4 ⟨rfl, m4, rfl⟩
      go_wp2_with fail
      go_loop [22] (fun s22 => ∃ k : Nat, k ≤ t ∧ s22 = .int .i64 k) (fun s22 => l3 - (intOf s22).toNat)
      case atStart => exact ⟨0, Nat.zero_le _, rfl⟩
      case round =>
        obtain ⟨k, hk, rfl⟩ := hrel
        have hkl : (k : Int) < (l3 : Int) := by omega
        by_cases hkt : k = t
        · subst hkt
          go_wp2_with fail
          refine (HEN.out k htl m4).mono ?_
          rintro e w5 ⟨rfl, rfl⟩
          have hkn : ((k : Int) == (l3 : Int)) = false := by simp; omega
          go_wp2_with fail
          go_roundw
          case rel =>
            have hr := (HROW.out.set k (.bool true)).congr (g := fun q => .bool (seenB X l3 (i + 1) q)) (fun q _ => by
              rw [seenB_succ, ← HT.out]
              by_cases e : q = k <;> simp [e])
            have hq := (below_drewN hbr m4).setCell (p := ⟨w1.heap.size, k, none⟩) (Nat.le_refl _) (.bool true)
            exact ⟨i + 1, by omega, by go_num, hr, hq⟩
          case measure => simp [intOf]; omega
        · have hne := HNE.out (k * 4) (by omega) m4
          go_wp2_with fail
          refine (HEN.out k (by omega) m4).mono ?_
          rintro e w5 ⟨rfl, rfl⟩
          go_wp2_with fail
          go_round
          case rel => exact ⟨k + 1, by omega, by go_num⟩
          case measure => simp [intOf]; omega
    · go_wp2_with fail
      go_ret
      exact ⟨rfl, hbm.trans (hbr.mono hbm.size)⟩

end Go.Proofs.Qxb6613843a
