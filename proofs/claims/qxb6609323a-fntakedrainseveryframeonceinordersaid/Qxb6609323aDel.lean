import Derived.Test.Qxb6609323aWr
import Derived.Laws.IdiomCopy
namespace Go.Proofs.Qxb6609323a
open Go.RowKit Go.Maps Go.WideElems
open Go.ChangeMaps (setBlock modify_eq_set)
set_option linter.unusedVariables false

theorem zero55 (w : World) : (zeroValue 55).run Try.prog w = .ok zf w := by kernel_rfl

theorem own_of_cells {w : World} {base g n cap : Nat} {cur : Array Value} {xs : List Value} (hb : base ≤ g) (hg : w.heap[g]? = some (.cells cur 55 (0, 0))) (hn : n ≤ cap) (hm : cap ≤ maxLen) (hc : cur.size = cap * 4) (hl : xs.length = n * 4)
    (hx : ∀ j u, xs[j]? = some u → w.cell? ⟨g, j, none⟩ = some u) : w.ownsRow base 55 4 (.slice (some ⟨g, 0, none⟩) n cap) n xs := by
  refine ⟨hl, .inr ⟨g, cap, cur, rfl, hb, hg, hn, hm, hc, ?_⟩⟩
  apply List.ext_getElem?
  intro j
  by_cases hj : j < n * 4
  · rw [List.getElem?_take_of_lt hj]
    obtain ⟨u, hu⟩ : ∃ u, xs[j]? = some u := ⟨_, List.getElem?_eq_getElem (by omega)⟩
    rw [hu]
    have h1 := hx j u hu
    simpa [World.cell?, hg] using h1
  · rw [List.getElem?_eq_none (by simp; omega), List.getElem?_eq_none (by omega)]

theorem own_cell {w : World} {base g n cap : Nat} {xs : List Value} (h : w.ownsRow base 55 4 (.slice (some ⟨g, 0, none⟩) n cap) n xs) : base ≤ g ∧ n ≤ cap ∧ cap ≤ maxLen ∧ (∃ cur, w.heap[g]? = some (.cells cur 55 (0, 0)) ∧ cur.size = cap * 4) ∧ (∀ j u, xs[j]? = some u → w.cell? ⟨g, j, none⟩ = some u) ∧ ∀ j, j < cap * 4 → (w.cell? ⟨g, j, none⟩).isSome = true := by
  obtain ⟨h0, h | ⟨g', cap', cur, e, h1, h2, h3, h4, h5, h6⟩⟩ := h
  · cases h.1
  · cases e
    refine ⟨h1, h3, h4, ⟨cur, h2, h5⟩, fun j u hu => ?_, fun j hj => ?_⟩
    · rw [← h6] at hu
      have hj : j < n * 4 := by
        have := (List.getElem?_eq_some_iff.1 hu).1
        simp at this
        omega
      rw [List.getElem?_take_of_lt hj] at hu
      simpa [World.cell?, h2] using hu
    · simp [World.cell?, h2]
      omega

theorem clear4 (w : World) (ty : TypeId) (g o n c : Nat) (hn : 0 < n) (hc : ∀ j, j < n * 4 → (w.cell? ⟨g, o + j, none⟩).isSome = true) (hf : ∀ j, j < n * 4 → w.frozen? ⟨g, o + j, none⟩ = false) :
    ∃ zs : List Value, zs.length = n * 4 ∧ (Builtin.clear_ #[44] ty #[.slice (some ⟨g, o, none⟩) n c]).run Try.prog w = .ok (.tuple #[]) (w.setCells g o zs) := by
  have hl : (Builtin.zeroCells zf.cells n).toList.length = n * 4 := by
    rw [Array.length_toList, size_zeroCells]
    rfl
  have hone : ∀ v ∈ (Builtin.zeroCells zf.cells n).toList, v.oneCell' = true := by
    intro v hv
    simp only [Builtin.zeroCells, Array.toList_map] at hv
    obtain ⟨i, _, rfl⟩ := List.mem_map.1 hv
    have h4 : zf.cells.size = 4 := rfl
    have h5 : ∀ q, q < 4 → (zf.cells[q]!).oneCell' = true := by
      intro q hq
      match q, hq with
      | 0, _ => rfl
      | 1, _ => rfl
      | 2, _ => rfl
      | 3, _ => rfl
    exact h5 _ (by rw [h4]; omega)
  have hst := run_storeCells_cells (P := Try.prog) g o _ 0 w (by simpa [hl] using hc) (by simpa [hl] using hf) hone
  simp only [Nat.add_zero] at hst
  obtain ⟨m, rfl⟩ : ∃ m, n = m + 1 := ⟨n - 1, by omega⟩
  refine ⟨_, hl, ?_⟩
  have h0 : ∀ W, (zeroValue 55).run Try.prog W = .ok (.agg #[.int .i64 0, .string { data := #[] }, .int .u8 0, .slice none 0 0]) W := zero55
  have hst' : (storeCells ⟨g, o, none⟩ (Builtin.zeroCells (Value.agg #[.int .i64 0, .string { data := #[] }, .int .u8 0, .slice none 0 0]).cells (m + 1)).toList).run Try.prog w = .ok () (w.setCells g o (Builtin.zeroCells zf.cells (m + 1)).toList) := hst
  simp [Builtin.clear_, run_underlying Try.underlying44, hst']

theorem drop_cells (F : List Fr) (i : Nat) : cellsOf (F.drop i) = (cellsOf F).drop (i * 4) := by
  induction F generalizing i with
  | nil => simp [cellsOf]
  | cons a r ih =>
    cases i with
    | zero => simp
    | succ i =>
      show cellsOf (r.drop i) = (Fr.cells a ++ cellsOf r).drop ((i + 1) * 4)
      have h1 : (Fr.cells a).length = 4 := rfl
      have h2 : (i + 1) * 4 = (Fr.cells a).length + i * 4 := by omega
      rw [ih, h2, List.drop_length_add_append]

theorem own_one {w : World} {base n e sz : Nat} {v : Value} {xs : List Value} (h : w.ownsRow base e sz v n xs) : v.oneCell' = true := by
  rcases h.2 with ⟨rfl, _⟩ | ⟨g', c', _, rfl, _⟩ <;> rfl

theorem del27z (vw : Value) (n : Nat) (cells : List Value) (base : Nat) (w : World) (h : w.ownsRow base 55 4 vw n cells) (hn : n ≤ 100000) : Calls Try.prog 27 #[vw, .int .i64 0, .int .i64 0] w fun e w' => e = .returned vw ∧ w' = w := by
  obtain ⟨a, c, rfl, hle⟩ : ∃ a c, vw = .slice a n c ∧ n ≤ c := by
    rcases h.2 with ⟨h0, h1⟩ | ⟨g', c', _, h0, _, _, h3, _⟩
    · exact ⟨_, _, by rw [h0, h1], by omega⟩
    · exact ⟨_, _, h0, h3⟩
  go_enter Try.func27, Try.ntmps27
  go_wp2
  all_goals (go_ret; exact ⟨rfl, rfl⟩)

set_option maxRecDepth 100000 in
set_option maxHeartbeats 4000000 in
theorem del27 (w : World) (base g cap : Nat) (F : List Fr) (i : Nat) (hown : w.ownsRow base 55 4 (.slice (some ⟨g, 0, none⟩) F.length cap) F.length (cellsOf F)) (hv : ∀ f ∈ F, f.v.oneCell' = true) (hi : 0 < i) (hle : i ≤ F.length) (hn : F.length ≤ 100000) :
    Calls Try.prog 27 #[.slice (some ⟨g, 0, none⟩) F.length cap, .int .i64 0, .int .i64 (i : Int)] w fun e w' => e = .returned (.slice (some ⟨g, 0, none⟩) (F.drop i).length cap) ∧ w'.ownsRow base 55 4 (.slice (some ⟨g, 0, none⟩) (F.drop i).length cap) (F.drop i).length (cellsOf (F.drop i)) ∧ Keep (fun k => k = g) w w' := by
  obtain ⟨hbg, hnc, hcm, ⟨cur, hcur, hcs⟩, hcell, hsome⟩ := own_cell hown
  obtain ⟨i55, hi55, hz, hs, hby⟩ := info_parts info55
  obtain ⟨news, hnews⟩ : ∃ news, news = cellsOf (F.drop i) := ⟨_, rfl⟩
  obtain ⟨n, hnd⟩ : ∃ n, F.length = n := ⟨_, rfl⟩
  have hdl : (F.drop i).length = n - i := by rw [List.length_drop, hnd]
  rw [hnd] at hle hn hnc ⊢
  rw [hdl]
  have hlen : news.length = (n - i) * 4 := by rw [hnews, cellsOf_len, hdl]
  have hone : ∀ u ∈ news, u.oneCell' = true := by
    intro u hu
    rw [hnews] at hu
    unfold cellsOf at hu
    obtain ⟨f, hf, hu⟩ := List.mem_flatMap.1 hu
    simp [Fr.cells] at hu
    rcases hu with rfl | rfl | rfl | rfl
    · rfl
    · rfl
    · rfl
    · exact hv f (List.mem_of_mem_drop hf)
  have hnat : ∀ j u, news[j]? = some u → w.cell? ⟨g, i * 4 + j, none⟩ = some u := by
    intro j u hu
    rw [hnews, drop_cells, List.getElem?_drop] at hu
    exact hcell _ _ hu
  obtain ⟨A, hA, hsrc⟩ : ∃ A : Addr, (if cap = i then some (⟨g, 0, none⟩ : Addr) else some ⟨g, i * 4, none⟩) = some A ∧ Hid (∀ t u, news[t]? = some u → w.drew.cell? (A.add t) = some u) := by
    by_cases h : cap = i
    · refine ⟨⟨g, 0, none⟩, by simp [h], fun t u hu => ?_⟩
      have h0 : news.length = 0 := by rw [hlen]; omega
      rw [List.length_eq_zero_iff.1 h0] at hu
      simp at hu
    · exact ⟨⟨g, i * 4, none⟩, by simp [h], fun t u hu => by rw [Addr.add_lit]; exact hnat t u hu⟩
  have s1 : Hid (news.length = (n - i) * 4) := hlen
  have s2 : Hid (∀ u ∈ news, u.oneCell' = true) := hone
  have s3 : Hid (∀ t, t < news.length → (w.drew.cell? ⟨g, 0 + 0 * 4 + t, none⟩).isSome = true ∧ w.drew.frozen? ⟨g, 0 + 0 * 4 + t, none⟩ = false) := by
    intro t ht
    rw [hlen] at ht
    refine ⟨?_, ?_⟩
    · have := hsome (0 + 0 * 4 + t) (by omega)
      exact this
    · show w.frozen? _ = false
      simp [World.frozen?, hcur]
  obtain ⟨W1, hW1⟩ : ∃ W1, W1 = w.drew.setCells g (0 + 0 * 4) news := ⟨_, rfl⟩
  have hW0 : W1 = w.drew.setCells g 0 news := hW1
  obtain ⟨cur1, hcur1, hcs1⟩ := heap_setCells_same g news 0 w.drew cur 55 hcur
  rw [← hW0] at hcur1
  obtain ⟨zs, hzl, hcl⟩ := clear4 W1 0 g ((n - i) * 4) i (cap - (n - i)) hi (by
      intro j hj
      simp [World.cell?, hcur1]
      omega) (by
      intro j hj
      simp [World.frozen?, hcur1])
  obtain ⟨W2, hW2⟩ : ∃ W2, W2 = W1.setCells g ((n - i) * 4) zs := ⟨_, rfl⟩
  obtain ⟨cur2, hcur2, hcs2⟩ := heap_setCells_same g zs ((n - i) * 4) W1 cur1 55 hcur1
  rw [← hW2] at hcur2 hcl
  have hrow : W2.ownsRow base 55 4 (.slice (some ⟨g, 0, none⟩) (n - i) cap) (n - i) (cellsOf (F.drop i)) := by
    refine own_of_cells hbg hcur2 (by omega) hcm (by omega) (by rw [← hnews]; exact hlen) (fun j u hu => ?_)
    rw [← hnews] at hu
    have hj : j < news.length := (List.getElem?_eq_some_iff.1 hu).1
    rw [hW2, World.cell?_setCells_out g zs _ _ _ (fun _ _ => .inl (by show j < (n - i) * 4; omega)), hW0]
    have := World.cell?_setCells_in g news 0 w.drew (by
      intro j hj
      have := hsome (0 + j) (by omega)
      exact this) j hj
    rw [Nat.zero_add] at this
    rw [this]
    rw [List.getElem?_eq_getElem hj] at hu
    exact hu
  have hkeep : Keep (fun k => k = g) w W2 := by
    have hb1 := below_setCells (B := 0) g (Nat.zero_le _) news 0 w.drew
    have hb2 := below_setCells (B := 0) g (Nat.zero_le _) zs ((n - i) * 4) W1
    rw [← hW0] at hb1
    rw [← hW2] at hb2
    refine ⟨hb2.os.trans hb1.os, hb2.tape.trans hb1.tape, hb2.output.trans hb1.output, Nat.le_trans hb1.size hb2.size, fun k hk hne => ?_⟩
    rw [hW2, heap_setCells_other g zs _ _ k hne, hW0, heap_setCells_other g news _ _ k hne]
    rfl
  have HROW := hide hrow
  have HKEEP := hide hkeep
  have hW : Hid (W1 = w.drew.setCells g (0 + 0 * 4) news) := hW1
  have hcap0 : ¬ cap = 0 := by omega
  have hcapn : ¬ cap = n - i := by omega
  have hic : i ≤ cap := by omega
  have hne : ¬ ((0 : Int) = (i : Int)) := by omega
  have hsub : n - (n - i) = i := by omega
  have hin : (n - i) ≤ n := by omega
  clear hrow hkeep hW1 hW0 hnews hlen hone hnat hcur hcur1 hcur2 hcs hcs1 hcs2 hown hcell hsome hzl hW2 hv hdl hnd
  go_enter Try.func27, Try.ntmps27
  go_wp2_with fail
  go_region_law (refine step_append_room rfl (.tmp 22) (.tmp 25) 44 rfl 55 i55 4 Try.underlying44 hi55 hs g 0 0 cap (by simp [Act.eval, Act.put]) A (n - i) (cap - i) news (by simp [Act.eval, Act.put]) s1.out hsrc.out s2.out (by omega) s3.out ?_; rw [← hW.out])
  go_wp2
  go_ret
  exact ⟨rfl, HROW.out, HKEEP.out⟩

end Go.Proofs.Qxb6609323a
