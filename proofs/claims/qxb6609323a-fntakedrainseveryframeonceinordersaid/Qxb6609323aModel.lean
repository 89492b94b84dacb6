import Derived.Test.Qxb6609323aModA
namespace Go.Proofs.Qxb6609323a
open Go.RowKit Go.Maps Go.WideElems
set_option linter.unusedVariables false

def zl (T : List Fr) : List Int := (wrt T).map fun f => (f.sz : Int)

structure Mk (w wr : World) (p : Nat) (T : List Fr) (i : Nat) (V : Nat → Value) (K : List (Ky × Int)) (A : List Nat) : Prop where
  ms : Ms w wr p V (XS K A (zl (T.take i))) (bsum (T.take i)) (fsum (wrt (T.take i)))
  m : M (T.take i) K
  a : Wa (T.take i) A
  kl : K.length ≤ i

theorem Wa.le {T : List Fr} {A : List Nat} (h : Wa T A) : A.length ≤ T.length := by
  rw [h.len]
  exact List.length_filter_le _ _

theorem bsum_nonneg (T : List Fr) : 0 ≤ bsum T := by
  induction T with
  | nil => exact Int.le_refl 0
  | cons f r ih =>
    have : bsum (f :: r) = (if 1 < f.k then szk f.q else 0) + bsum r := by simp [bsum]
    rw [this]
    have := szk_pos f.q
    split <;> omega

theorem bsum_take (T : List Fr) (i : Nat) : bsum (T.take i) ≤ bsum T := by
  have h1 : bsum (T.take i ++ T.drop i) = bsum (T.take i) + bsum (T.drop i) := by unfold bsum; rw [List.map_append, List.sum_append]
  rw [List.take_append_drop] at h1
  have := bsum_nonneg (T.drop i)
  omega
theorem wsum_take (T : List Fr) (i : Nat) : fsum (wrt (T.take i)) ≤ fsum (wrt T) := by
  have h1 : wrt (T.take i ++ T.drop i) = wrt (T.take i) ++ wrt (T.drop i) := by unfold wrt; rw [List.filter_append]
  rw [List.take_append_drop] at h1
  have h2 := congrArg fsum h1
  rw [fsum_append] at h2
  have := fsum_nonneg (wrt (T.drop i))
  omega

theorem Mk.write {w w6 : World} {p : Nat} {T : List Fr} {i : Nat} {V : Nat → Value} {K : List (Ky × Int)} {A : List Nat} {f : Fr} {V' : Nat → Value} {X' : Nat → List Value} {wt' : Int} (hm : M (T.take i) K) (ha : Wa (T.take i) A) (hkl : K.length ≤ i) (hf : T[i]? = some f) (hk : f.k ≤ 1)
    (h : Ms w w6 p V' X' (bsum (T.take i)) wt') (hwt : wt' = fsum (wrt (T.take i)) + (f.sz : Int)) (hX : ∀ j, j < 7 → X' j = upd (upd (XS K A (zl (T.take i))) 5 (XS K A (zl (T.take i)) 5 ++ [.int .i64 (i : Int)])) 6 (XS K A (zl (T.take i)) 6 ++ [.int .i64 (f.sz : Int)]) j) : Mk w w6 p T (i + 1) V' K (A ++ [i]) := by
  have hlt := (List.getElem?_eq_some_iff.1 hf).1
  have e := take_snoc hf
  have ew : wrt (T.take (i + 1)) = wrt (T.take i) ++ [f] := by rw [e, wrt_append, if_pos hk]
  have eb : bsum (T.take (i + 1)) = bsum (T.take i) := by rw [e, bsum_append, if_neg (by omega)]; omega
  have es : fsum (wrt (T.take (i + 1))) = fsum (wrt (T.take i)) + (f.sz : Int) := by rw [ew, fsum_append, fsum_cons, fsum_nil]; omega
  refine ⟨?_, ?_, ?_, by omega⟩
  · rw [eb, es, ← hwt]
    refine h.congr (fun j hj => ?_)
    rw [hX j hj]
    unfold zl
    rw [ew]
    match j, hj with
    | 0, _ | 1, _ | 2, _ | 3, _ | 4, _ => rfl
    | 5, _ => simp [upd, XS]
    | 6, _ => simp [upd, XS]
  · rw [e]; exact hm.write (by omega)
  · rw [e]
    have := ha.write (f := f) hk
    rw [List.length_take, Nat.min_eq_left (by omega)] at this
    exact this

theorem Ms.drewN {W0 w : World} {p : Nat} {V : Nat → Value} {X : Nat → List Value} {bt wt : Int} (h : Ms W0 w p V X bt wt) (n : Nat) : Ms W0 (w.drewN n) p V X bt wt := h.same rfl (fun _ _ _ _ => rfl) ⟨rfl, rfl, rfl, Nat.le_refl _, fun _ _ => rfl⟩

theorem bytes_ne {a b : ByteArray} (h : a ≠ b) : (a == b) = false := by
  cases a with | mk x =>
  cases b with | mk y =>
  have : x ≠ y := fun e => h (by rw [e])
  show (x == y) = false
  rw [beq_eq_false_iff_ne]
  exact this

theorem not_key {K : List (Ky × Int)} {q : Ky} {k : Nat} {e : Ky × Int} (hne : ∀ j e, j < k → K[j]? = some e → e.1 ≠ q) (he : K[k]? = some e) (hq : e.1 ≠ q) : ∀ j e, j < k + 1 → K[j]? = some e → e.1 ≠ q := by
  intro j e' hj he'
  by_cases h : j < k
  · exact hne j e' h he'
  · have : j = k := by omega
    subst this
    rw [he] at he'
    cases he'
    exact hq

theorem bc_le {T : List Fr} {i : Nat} {q : Ky} (hl : T.length ≤ 4096) : bc (T.take i) q ≤ 4096 := by
  unfold bc
  have h1 := List.countP_le_length (p := fun f : Fr => decide (1 < f.k) && decide (f.q = q)) (l := T.take i)
  rw [List.length_take] at h1
  omega

def set9 (w : World) (g : Nat) (x0 x1 x2 x3 x4 x5 x6 x7 x8 : Value) : World := ((((((((w.setCell ⟨g, 0, none⟩ x0).setCell ⟨g, 1, none⟩ x1).setCell ⟨g, 2, none⟩ x2).setCell ⟨g, 3, none⟩ x3).setCell ⟨g, 4, none⟩ x4).setCell ⟨g, 5, none⟩ x5).setCell ⟨g, 6, none⟩ x6).setCell ⟨g, 7, none⟩ x7).setCell ⟨g, 8, none⟩ x8

theorem set9_blk {w : World} {g : Nat} {y0 y1 y2 y3 y4 y5 y6 y7 y8 : Value} (h : w.heap[g]? = some (.cells #[y0, y1, y2, y3, y4, y5, y6, y7, y8] 32 (0, 0))) (x0 x1 x2 x3 x4 x5 x6 x7 x8 : Value) : (set9 w g x0 x1 x2 x3 x4 x5 x6 x7 x8).heap[g]? = some (.cells #[x0, x1, x2, x3, x4, x5, x6, x7, x8] 32 (0, 0)) := by
  unfold set9
  obtain ⟨w0, e0⟩ : ∃ W, W = w.setCell ⟨g, 0, none⟩ x0 := ⟨_, rfl⟩
  have h0 : w0.heap[g]? = some (.cells #[x0, y1, y2, y3, y4, y5, y6, y7, y8] 32 (0, 0)) := by rw [e0]; exact heap_setCell_same w g 0 _ _ x0 h
  rw [← e0]
  obtain ⟨w1, e1⟩ : ∃ W, W = w0.setCell ⟨g, 1, none⟩ x1 := ⟨_, rfl⟩
  have h1 : w1.heap[g]? = some (.cells #[x0, x1, y2, y3, y4, y5, y6, y7, y8] 32 (0, 0)) := by rw [e1]; exact heap_setCell_same w0 g 1 _ _ x1 h0
  rw [← e1]
  obtain ⟨w2, e2⟩ : ∃ W, W = w1.setCell ⟨g, 2, none⟩ x2 := ⟨_, rfl⟩
  have h2 : w2.heap[g]? = some (.cells #[x0, x1, x2, y3, y4, y5, y6, y7, y8] 32 (0, 0)) := by rw [e2]; exact heap_setCell_same w1 g 2 _ _ x2 h1
  rw [← e2]
  obtain ⟨w3, e3⟩ : ∃ W, W = w2.setCell ⟨g, 3, none⟩ x3 := ⟨_, rfl⟩
  have h3 : w3.heap[g]? = some (.cells #[x0, x1, x2, x3, y4, y5, y6, y7, y8] 32 (0, 0)) := by rw [e3]; exact heap_setCell_same w2 g 3 _ _ x3 h2
  rw [← e3]
  obtain ⟨w4, e4⟩ : ∃ W, W = w3.setCell ⟨g, 4, none⟩ x4 := ⟨_, rfl⟩
  have h4 : w4.heap[g]? = some (.cells #[x0, x1, x2, x3, x4, y5, y6, y7, y8] 32 (0, 0)) := by rw [e4]; exact heap_setCell_same w3 g 4 _ _ x4 h3
  rw [← e4]
  obtain ⟨w5, e5⟩ : ∃ W, W = w4.setCell ⟨g, 5, none⟩ x5 := ⟨_, rfl⟩
  have h5 : w5.heap[g]? = some (.cells #[x0, x1, x2, x3, x4, x5, y6, y7, y8] 32 (0, 0)) := by rw [e5]; exact heap_setCell_same w4 g 5 _ _ x5 h4
  rw [← e5]
  obtain ⟨w6, e6⟩ : ∃ W, W = w5.setCell ⟨g, 6, none⟩ x6 := ⟨_, rfl⟩
  have h6 : w6.heap[g]? = some (.cells #[x0, x1, x2, x3, x4, x5, x6, y7, y8] 32 (0, 0)) := by rw [e6]; exact heap_setCell_same w5 g 6 _ _ x6 h5
  rw [← e6]
  obtain ⟨w7, e7⟩ : ∃ W, W = w6.setCell ⟨g, 7, none⟩ x7 := ⟨_, rfl⟩
  have h7 : w7.heap[g]? = some (.cells #[x0, x1, x2, x3, x4, x5, x6, x7, y8] 32 (0, 0)) := by rw [e7]; exact heap_setCell_same w6 g 7 _ _ x7 h6
  rw [← e7]
  obtain ⟨w8, e8⟩ : ∃ W, W = w7.setCell ⟨g, 8, none⟩ x8 := ⟨_, rfl⟩
  have h8 : w8.heap[g]? = some (.cells #[x0, x1, x2, x3, x4, x5, x6, x7, x8] 32 (0, 0)) := by rw [e8]; exact heap_setCell_same w7 g 8 _ _ x8 h7
  rw [← e8]
  exact h8

theorem keep_set {X : Nat → Prop} {a w : World} (h : Keep X a w) {g i : Nat} (hg : X g) (u : Value) : Keep X a (w.setCell ⟨g, i, none⟩ u) := h.setCell (.inl hg) u

theorem set9_keep (w : World) (g : Nat) (x0 x1 x2 x3 x4 x5 x6 x7 x8 : Value) : Keep (fun k => k = g) w (set9 w g x0 x1 x2 x3 x4 x5 x6 x7 x8) := by
  unfold set9
  have k : Keep (fun k => k = g) w w := Keep.refl _ _
  replace k := keep_set k (i := 0) (g := g) rfl x0
  replace k := keep_set k (i := 1) (g := g) rfl x1
  replace k := keep_set k (i := 2) (g := g) rfl x2
  replace k := keep_set k (i := 3) (g := g) rfl x3
  replace k := keep_set k (i := 4) (g := g) rfl x4
  replace k := keep_set k (i := 5) (g := g) rfl x5
  replace k := keep_set k (i := 6) (g := g) rfl x6
  replace k := keep_set k (i := 7) (g := g) rfl x7
  replace k := keep_set k (i := 8) (g := g) rfl x8
  exact k

theorem own_mono {w : World} {b b' n sz : Nat} {e : TypeId} {v : Value} {xs : List Value} (h : w.ownsRow b e sz v n xs) (hb : b' ≤ b) : w.ownsRow b' e sz v n xs := by
  refine ⟨h.1, ?_⟩
  rcases h.2 with h0 | ⟨g, cap, cur, h1, h2, h3⟩
  · exact .inl h0
  · exact .inr ⟨g, cap, cur, h1, Nat.le_trans hb h2, h3⟩

/-- a new key -/
theorem Mk.new {w w4 : World} {p : Nat} {T : List Fr} {i : Nat} {V : Nat → Value} {K : List (Ky × Int)} {A : List Nat} {f : Fr} {bt : Int} {X : Nat → List Value} (hm : M (T.take (i + 1)) (K ++ [(f.q, 1)])) (ha : Wa (T.take (i + 1)) A) (hkl : K.length ≤ i) (hb : bsum (T.take (i + 1)) = bt) (hew : wrt (T.take (i + 1)) = wrt (T.take i))
    (h : Ms w w4 p V X bt (fsum (wrt (T.take i)))) (hX : ∀ j, j < 7 → X j = XS (K ++ [(f.q, 1)]) A (zl (T.take i)) j) : Mk w w4 p T (i + 1) V (K ++ [(f.q, 1)]) A := by
  refine ⟨?_, hm, ha, by simp; omega⟩
  rw [hb, hew]
  refine h.congr (fun j hj => ?_)
  rw [hX j hj]
  unfold zl
  rw [hew]

/-- a known key counted -/
theorem Mk.inc {w w4 : World} {p : Nat} {T : List Fr} {i : Nat} {V : Nat → Value} {K : List (Ky × Int)} {A : List Nat} {f : Fr} {k : Nat} {c bt : Int} {X : Nat → List Value} (hm : M (T.take (i + 1)) (incK K f.q)) (ha : Wa (T.take (i + 1)) A) (hkl : K.length ≤ i) (hnd : (K.map (·.1)).Nodup) (he : K[k]? = some (f.q, c)) (hb : bsum (T.take (i + 1)) = bt) (hew : wrt (T.take (i + 1)) = wrt (T.take i))
    (h : Ms w w4 p V X bt (fsum (wrt (T.take i)))) (hX : ∀ j, j < 7 → X j = upd (XS K A (zl (T.take i))) 3 ((XS K A (zl (T.take i)) 3).set k (.int .i64 (c + 1))) j) : Mk w w4 p T (i + 1) V (incK K f.q) A := by
  refine ⟨?_, hm, ha, by unfold incK; simp; omega⟩
  rw [hb, hew]
  refine h.congr (fun j hj => ?_)
  rw [hX j hj]
  have hkeys := incK_keys K f.q
  unfold zl
  rw [hew]
  match j, hj with
  | 0, _ => show K.map _ = (incK K f.q).map _; have := congrArg (List.map fun (q : Ky) => Value.int .u8 q.1) hkeys; simpa [List.map_map, Function.comp_def] using this.symm
  | 1, _ => show K.map _ = (incK K f.q).map _; have := congrArg (List.map fun (q : Ky) => Value.int .i64 q.2.1) hkeys; simpa [List.map_map, Function.comp_def] using this.symm
  | 2, _ => show K.map _ = (incK K f.q).map _; have := congrArg (List.map fun (q : Ky) => Value.string q.2.2) hkeys; simpa [List.map_map, Function.comp_def] using this.symm
  | 3, _ => exact (incK_count hnd he).symm
  | 4, _ => show K.map _ = (incK K f.q).map _; have := congrArg (List.map fun (q : Ky) => Value.int .i64 (szk q)) hkeys; simpa [List.map_map, Function.comp_def] using this.symm
  | 5, _ => rfl
  | 6, _ => rfl

set_option maxRecDepth 100000 in
set_option maxHeartbeats 8000000 in
theorem model7 (B : Nat) (v : Value) (T : List Fr) (w : World) (h : Cl w B v T) (hT : ∀ f ∈ T, TOk f) (hl : T.length ≤ 4096) (hs0 : fsum (wrt T) + bsum T ≤ 1048576) :
    Calls Try.prog 7 #[v] w fun e w' => ∃ (V : Nat → Value) (K : List (Ky × Int)) (A : List Nat), e = .returned (.agg #[V 0, V 1, V 2, V 3, V 4, V 5, V 6, .int .i64 (bsum T), .int .i64 (fsum (wrt T))]) ∧ (∀ j, j < 7 → w'.ownsRow w.heap.size (tag j) 1 (V j) (XS K A (zl T) j).length (XS K A (zl T) j)) ∧ M T K ∧ Wa T A ∧ K.length ≤ T.length ∧ Below w.heap.size w w' := by
  obtain ⟨W0, hW0s, hW0b, hW0r, hMk0⟩ : ∃ W0 : World, W0.heap.size = w.heap.size + 1 ∧ Below w.heap.size w W0 ∧ W0.heap[w.heap.size]? = some (.cells #[.slice none 0 0, .slice none 0 0, .slice none 0 0, .slice none 0 0, .slice none 0 0, .slice none 0 0, .slice none 0 0, .int .i64 0, .int .i64 0] 32 (0, 0)) ∧ Mk W0 ((w.alloc (.cells #[.slice none 0 0, .slice none 0 0, .slice none 0 0, .slice none 0 0, .slice none 0 0, .slice none 0 0, .slice none 0 0, .int .i64 0, .int .i64 0] 32 (0, 0))).alloc (.cells #[.slice none 0 0, .slice none 0 0, .slice none 0 0, .slice none 0 0, .slice none 0 0, .slice none 0 0, .slice none 0 0, .int .i64 0, .int .i64 0] 32 (0, 0))) (w.heap.size + 1) T 0 (fun _ => .slice none 0 0) [] [] :=
    ⟨w.alloc (.cells #[.slice none 0 0, .slice none 0 0, .slice none 0 0, .slice none 0 0, .slice none 0 0, .slice none 0 0, .slice none 0 0, .int .i64 0, .int .i64 0] 32 (0, 0)), by simp, (Below.refl _ _).alloc (Nat.le_refl _) _, Array.getElem?_push_size, ⟨by have := ms_start (w.alloc (.cells #[.slice none 0 0, .slice none 0 0, .slice none 0 0, .slice none 0 0, .slice none 0 0, .slice none 0 0, .slice none 0 0, .int .i64 0, .int .i64 0] 32 (0, 0))) _ rfl; simp only [World.size_alloc] at this; exact this, M.nil, Wa.nil, Nat.le_refl _⟩⟩
  have HMK := hide hMk0
  have HW0 := hide (And.intro hW0b hW0r)
  have HT := hide (And.intro hT hs0)
  have HC := hide h
  obtain ⟨av, cv, rfl⟩ : ∃ a c, v = .slice a T.length c := by
    rcases h.sh with ⟨h1, a, c, h2⟩ | ⟨g, cur, h1, _⟩
    · exact ⟨a, c, by rw [h2, h1]; rfl⟩
    · exact ⟨_, _, h1⟩
  clear hMk0 hT h hs0 hW0b hW0r
  go_enter Try.func7, Try.ntmps7
  go_wp2_with fail
  go_loopw [4] (fun vi wr => ∃ (i : Nat) (V : Nat → Value) (K : List (Ky × Int)) (A : List Nat), vi = .int .i64 (i : Int) ∧ i ≤ T.length ∧ Mk W0 wr (w.heap.size + 1) T i V K A) (fun vi _ => T.length - (intOf vi).toNat)
  case atStart => exact ⟨0, _, [], [], rfl, Nat.zero_le _, HMK.out⟩
  case round =>
    obtain ⟨i, V, K, A, rfl, hi, hMk⟩ := hrel
    obtain ⟨w0, hw0⟩ : ∃ x, x = wr := ⟨_, rfl⟩
    subst hw0
    by_cases hlt : i < T.length
    · obtain ⟨f, hf⟩ : ∃ f, T[i]? = some f := ⟨_, List.getElem?_eq_getElem hlt⟩
      have hfm := List.mem_of_getElem? hf
      have hsh := HC.out.sh
      rcases hsh with ⟨h1, _⟩ | ⟨g, cur, h1, hBg, hgc, hfa⟩
      · rw [h1] at hlt; exact absurd hlt (by simp)
      cases h1
      obtain ⟨q0, q1, q2, q3⟩ := (hfa i f hf).later (HW0.out.1.trans (hMk.ms.below.mono (by omega)))
      obtain ⟨hk0, hfs, va, vl, vc, hfv, hvl⟩ := HT.out.1 f hfm
      rw [hfv] at q3
      have hsz : f.sz = fsz f.k f.o f.s.size vl := by unfold Fr.sz; rw [hfv]; rfl
      have hbx : (w0.alloc (.cells #[.int .u8 f.k, .int .i64 f.o, .string f.s, .slice va vl vc] 26 (0, 0))).heap[w0.heap.size]? = some (.cells #[.int .u8 f.k, .int .i64 f.o, .string f.s, .slice va vl vc] 26 (0, 0)) := Array.getElem?_push_size
      have hM1 := hMk.ms.later ((Below.refl _ _).alloc (Nat.le_refl _) (.cells #[.int .u8 f.k, .int .i64 f.o, .string f.s, .slice va vl vc] 26 (0, 0)))
      obtain ⟨x0, x1, x2, x3⟩ := cells4 hbx
      have hAl : A.length ≤ 4096 := by have := hMk.a.le; rw [List.length_take] at this; omega
      have hbs := bsum_take T (i + 1)
      have hws := wsum_take T (i + 1)
      have hbn := bsum_nonneg (T.take i)
      have hwn := fsum_nonneg (wrt (T.take i))
      have hs0 := HT.out.2
      by_cases hk : f.k ≤ 1
      · have hes : fsum (wrt (T.take (i + 1))) = fsum (wrt (T.take i)) + (f.sz : Int) := by rw [take_snoc hf, wrt_append, if_pos hk, fsum_append, fsum_cons, fsum_nil]; omega
        have hbn1 := bsum_nonneg (T)
        have H5 := hide (size5 f.k f.o f.s vl (w0.alloc (.cells #[.int .u8 f.k, .int .i64 f.o, .string f.s, .slice va vl vc] 26 (0, 0))) hk0 hfs hvl)
        obtain ⟨fz, hfz⟩ : ∃ fz, fsz f.k f.o f.s.size vl = fz := ⟨_, rfl⟩
        rw [hfz] at H5 hsz
        obtain ⟨wt, hwt⟩ : ∃ wt, fsum (wrt (T.take i)) = wt := ⟨_, rfl⟩
        have hwr : IntKind.i64.wrap (wt + (fz : Int)) = wt + (fz : Int) := wrap_small _ (by omega) (by omega)
        obtain ⟨a5, n5, c5, w5, r5, d5, e5, hM5, bx5, ce5, cb5, fz5⟩ := hM1.run 29 5 (by omega) (.inr (.inr ⟨rfl, by decide, by decide⟩)) (.int .i64 (i : Int)) rfl (by simp [XS]; omega) 3
        obtain ⟨a6, n6, c6, w6, r6, d6, e6, hM6, bx6, ce6, cb6, fz6⟩ := hM5.run 29 6 (by omega) (.inr (.inr ⟨rfl, by decide, by decide⟩)) (.int .i64 (fz : Int)) rfl (by have := hMk.a.len; have := hMk.a.le; rw [List.length_take] at this; simp [XS, upd, zl]; omega) 3
        have hMk2 : Mk W0 ((w6.setCell ⟨w.heap.size + 1, 6, none⟩ (.slice a6 n6 c6)).setCell ⟨w.heap.size + 1, 8, none⟩ (.int .i64 (wt + (fz : Int)))) (w.heap.size + 1) T (i + 1) _ K (A ++ [i]) := Mk.write (V := V) hMk.m hMk.a hMk.kl hf hk (hM6.setW (wt + (fz : Int))) (by rw [hwt, hsz]) (fun j hj => by rw [hsz]; rfl)
        have k5 : (w0.alloc (.cells #[.int .u8 f.k, .int .i64 f.o, .string f.s, .slice va vl vc] 26 (0, 0))).cell? ⟨w.heap.size + 1, 5, none⟩ = some (V 5) := hM1.cell.2.2.2.2.2.1
        have k6 : w5.cell? ⟨w.heap.size + 1, 6, none⟩ = some (V 6) := (ce5 6).trans hM1.cell.2.2.2.2.2.2.1
        have d6' : w6.cell? ⟨w.heap.size + 1, 6, none⟩ = some (V 6) := d6
        have k8 : w6.cell? ⟨w.heap.size + 1, 8, none⟩ = some (.int .i64 wt) := by rw [← hwt]; exact (ce6 8).trans hM5.cell.2.2.2.2.2.2.2.2
        have f8 := fz6 8
        simp only [World.size_setCell] at r6
        simp only [World.size_alloc] at r5
        have r6' : (Builtin.append_ #[29, 29] 29 #[V 6, .slice (some ⟨w5.heap.size, 0, none⟩) 1 1]).run Try.prog _ = _ := r6
        have HR := hide (And.intro r5 r6')
        have HMK2 := hide hMk2
        clear hM1 hM5 hM6 hMk2 bx5 bx6 ce5 ce6 cb5 cb6 fz5 fz6 hMk hfa hbx hbs hws hbn hwn hs0 hes hbn1 hwt hsz hfv hfz d6 r5 r6 r6'
        go_wp2_with fail
        refine H5.out.mono ?_
        rintro e1 w1' ⟨rfl, rfl⟩
        go_wp2_with (at_builtin; refine wpList_append_eq rfl (.tmp 34) (.tmp 36) 29 rfl (V 5) (.slice (some ⟨w0.heap.size + 1, 0, none⟩) 1 1) (.slice a5 n5 c5) rfl rfl HR.out.1 rfl ?_; refine Hid.out ?_)
        refine hide ?_
        go_wp2_with (at_builtin; refine wpList_append_eq rfl (.tmp 40) (.tmp 42) 29 rfl (V 6) (.slice (some ⟨w5.heap.size, 0, none⟩) 1 1) (.slice a6 n6 c6) rfl rfl HR.out.2 rfl ?_; refine Hid.out ?_)
        refine hide ?_
        go_wp2_with fail
        exact ⟨⟨i + 1, _, K, A ++ [i], by go_num, by omega, HMK2.out⟩, by simp [intOf]; omega⟩
      · have hes : bsum (T.take (i + 1)) = bsum (T.take i) + szk f.q := by rw [take_snoc hf, bsum_append, if_pos (by omega)]
        have hwn1 := fsum_nonneg (wrt T)
        have H5 := hide (size5 f.k f.o f.s 0 (w0.alloc (.cells #[.int .u8 f.k, .int .i64 f.o, .string f.s, .slice va vl vc] 26 (0, 0))) hk0 hfs (by omega))
        obtain ⟨fz, hfz⟩ : ∃ fz, fsz f.k f.o f.s.size 0 = fz := ⟨_, rfl⟩
        have hszk : szk f.q = (fz : Int) := by unfold szk Fr.q; rw [← hfz]
        rw [hfz] at H5
        obtain ⟨bt, hbt⟩ : ∃ bt, bsum (T.take i) = bt := ⟨_, rfl⟩
        have hwr : IntKind.i64.wrap (bt + (fz : Int)) = bt + (fz : Int) := wrap_small _ (by omega) (by omega)
        have hM2 := hM1.setB (bt + (fz : Int))
        have hbx2 := hM1.box hbx 7 (.int .i64 (bt + (fz : Int)))
        have k7 : (w0.alloc (.cells #[.int .u8 f.k, .int .i64 f.o, .string f.s, .slice va vl vc] 26 (0, 0))).cell? ⟨w.heap.size + 1, 7, none⟩ = some (.int .i64 bt) := by rw [← hbt]; exact hM1.cell.2.2.2.2.2.2.2.1
        have f7 := hM1.fz 7
        have hkl : K.length ≤ 4096 := by have := hMk.kl; omega
        obtain ⟨a0, c0, hV0⟩ : ∃ a c, V 0 = .slice a K.length c := by
          have h1 : (XS K A (zl (T.take i)) 0).length = K.length := by simp [XS]
          rcases (hM1.row 0 (by omega)).2 with ⟨h2, h3⟩ | ⟨g', c', _, h2, _⟩
          · exact ⟨_, _, by rw [h2, ← h1, h3]⟩
          · exact ⟨_, _, by rw [h2, h1]⟩
        have hkey : f.q ∈ K.map (·.1) → M (T.take (i + 1)) (incK K f.q) := fun hq => by rw [take_snoc hf]; exact hMk.m.inc (by omega) hq
        have hnew : f.q ∉ K.map (·.1) → M (T.take (i + 1)) (K ++ [(f.q, 1)]) := fun hq => by rw [take_snoc hf]; exact hMk.m.new (by omega) hq
        have hct : ∀ e ∈ K, 0 ≤ e.2 ∧ e.2 ≤ 4096 := fun e he => by
          rw [hMk.m.ct e he]
          exact ⟨bc_nonneg _ _, bc_le hl⟩
        have hwa : Wa (T.take (i + 1)) A := by rw [take_snoc hf]; exact hMk.a.bare hk
        have hew : wrt (T.take (i + 1)) = wrt (T.take i) := by rw [take_snoc hf, wrt_append, if_neg hk]
        have HP := hide (And.intro hkey (And.intro hnew (And.intro hwa (And.intro hew (And.intro hMk.kl (And.intro hMk.m.nd (And.intro hes (And.intro hszk hct))))))))
        have HB := hide hbt
        have HM2 := hide hM2
        have HBX2 := hide hbx2
        clear hM1 hM2 hbx2 hMk hfa hbx hbs hws hbn hwn hs0 hes hwn1 hsz hfv hfz hkey hnew hwa hew hbt hszk hct
        go_wp2_with fail
        refine H5.out.mono ?_
        rintro e1 w1' ⟨rfl, rfl⟩
        go_wp2_with fail
        go_loopw [8, 9] (fun vf vk w0' => ∃ (k : Nat), vf = .bool false ∧ vk = .int .i64 (k : Int) ∧ k ≤ K.length ∧ (∀ j e, j < k → K[j]? = some e → e.1 ≠ f.q) ∧ Ms W0 w0' (w.heap.size + 1) V (XS K A (zl (T.take i))) (bt + (fz : Int)) (fsum (wrt (T.take i))) ∧ w0'.heap[w0.heap.size]? = some (.cells #[.int .u8 f.k, .int .i64 f.o, .string f.s, .slice va vl vc] 26 (0, 0))) (fun _ vk _ => K.length - (intOf vk).toNat)
        case atStart => exact ⟨0, rfl, rfl, Nat.zero_le _, (fun j e hj => by omega), HM2.out, HBX2.out⟩
        case round =>
          obtain ⟨k, rfl, rfl, hkle, hne, hM3, hbx3⟩ := hrel
          obtain ⟨y0, y1, y2, y3⟩ := cells4 hbx3
          have k0 := hM3.cell.1
          rw [hV0] at k0
          by_cases hkl2 : k < K.length
          · obtain ⟨e, he⟩ : ∃ e, K[k]? = some e := ⟨_, List.getElem?_eq_getElem hkl2⟩
            obtain ⟨⟨ek, eo, es⟩, ec⟩ := e
            obtain ⟨g0, cc0, hv0, z0, _⟩ := own1_at (hM3.row 0 (by omega)) (k := k) (x := .int .u8 ek) (by simp [XS, he])
            obtain ⟨g1, cc1, hv1, z1, _⟩ := own1_at (hM3.row 1 (by omega)) (k := k) (x := .int .i64 eo) (by simp [XS, he])
            obtain ⟨g2, cc2, hv2, z2, _⟩ := own1_at (hM3.row 2 (by omega)) (k := k) (x := .string es) (by simp [XS, he])
            obtain ⟨g3, cc3, hv3, z3, fz3⟩ := own1_at (hM3.row 3 (by omega)) (k := k) (x := .int .i64 ec) (by simp [XS, he])
            have hx0 : (XS K A (zl (T.take i)) 0).length = K.length := by simp [XS]
            have hx1 : (XS K A (zl (T.take i)) 1).length = K.length := by simp [XS]
            have hx2 : (XS K A (zl (T.take i)) 2).length = K.length := by simp [XS]
            have hx3 : (XS K A (zl (T.take i)) 3).length = K.length := by simp [XS]
            rw [hx0] at hv0
            rw [hx1] at hv1
            rw [hx2] at hv2
            have hv3' := hv3
            rw [hx3] at hv3
            have k0' := hM3.cell.1
            have k1 := hM3.cell.2.1
            have k2 := hM3.cell.2.2.1
            have k3 := hM3.cell.2.2.2.1
            rw [hv0] at k0' 
            rw [hv1] at k1
            rw [hv2] at k2
            rw [hv3] at k3
            have hk0e := hV0.symm.trans hv0
            cases hk0e
            have hlt2 : (k : Int) < (K.length : Int) := by omega
            have hk00 : (0 : Int) ≤ (k : Int) := by omega
            have HM3 := hide hM3
            have HBX3 := hide hbx3
            have HNE := hide hne
            by_cases e1 : ek = f.k
            · by_cases e2 : eo = f.o
              · by_cases e3 : es = f.s
                · subst e1 e2 e3
                  have hcb : 0 ≤ ec ∧ ec ≤ 4096 := HP.out.2.2.2.2.2.2.2.2 _ (List.mem_of_getElem? he)
                  have hwc : IntKind.i64.wrap (ec + 1) = ec + 1 := wrap_small _ (by omega) (by omega)
                  have hMk3 : ∀ n, Mk W0 ((wr.drewN n).setCell ⟨g3, k, none⟩ (.int .i64 (ec + 1))) (w.heap.size + 1) T (i + 1) V (incK K f.q) A := fun n =>
                    Mk.inc (HP.out.1 (List.mem_map.2 ⟨_, List.mem_of_getElem? he, rfl⟩)) HP.out.2.2.1 HP.out.2.2.2.2.1 HP.out.2.2.2.2.2.1 he (by rw [HP.out.2.2.2.2.2.2.1, HP.out.2.2.2.2.2.2.2.1, HB.out]) HP.out.2.2.2.1 (((HM3.out.drewN n).setRow (j := 3) (by omega) hv3' (by rw [hx3]; omega) _).1) (fun j hj => rfl)
                  have HMK3 := hide hMk3
                  clear hM3 hbx3 hne k0 hMk3
                  go_wp2_with fail
                  go_quiet (fail)
                  go_wp2_with fail
                  exact ⟨⟨i + 1, V, incK K f.q, A, by go_num, by omega, HMK3.out _⟩, by simp [intOf]; omega⟩
                · have b1 : (ek == f.k) = true := by rw [beq_iff_eq]; exact e1
                  have b2 : (eo == f.o) = true := by rw [beq_iff_eq]; exact e2
                  have b3 : (es.toList == f.s.toList) = false := by rw [← beq_toListBytes]; exact bytes_ne e3
                  clear hM3 hbx3 hne k0
                  go_wp2_with fail
                  go_quiet (fail)
                  go_wp2_with fail
                  go_roundw
                  case rel => exact ⟨k + 1, rfl, by go_num, by omega, not_key HNE.out he (fun e => by unfold Fr.q at e; simp at e; exact e3 e.2.2), HM3.out.drewN _, HBX3.out⟩
                  case measure => simp [intOf]; omega
              · have b1 : (ek == f.k) = true := by rw [beq_iff_eq]; exact e1
                have b2 : (eo == f.o) = false := by rw [beq_eq_false_iff_ne]; exact e2
                clear hM3 hbx3 hne k0
                go_wp2_with fail
                go_quiet (fail)
                go_wp2_with fail
                go_roundw
                case rel => exact ⟨k + 1, rfl, by go_num, by omega, not_key HNE.out he (fun e => by unfold Fr.q at e; simp at e; exact e2 e.2.1), HM3.out.drewN _, HBX3.out⟩
                case measure => simp [intOf]; omega
            · have b1 : (ek == f.k) = false := by rw [beq_eq_false_iff_ne]; exact e1
              clear hM3 hbx3 hne k0
              go_wp2_with fail
              go_quiet (fail)
              go_wp2_with fail
              go_roundw
              case rel => exact ⟨k + 1, rfl, by go_num, by omega, not_key HNE.out he (fun e => by unfold Fr.q at e; simp at e; exact e1 e.1), HM3.out.drewN _, HBX3.out⟩
              case measure => simp [intOf]; omega
          · have hke : k = K.length := by omega
            have hnk : f.q ∉ K.map (·.1) := by
              intro hq
              obtain ⟨e, he, he2⟩ := List.mem_map.1 hq
              obtain ⟨j, hj⟩ := List.getElem?_of_mem he
              exact hne j e (by have := (List.getElem?_eq_some_iff.1 hj).1; omega) hj he2
            have hbp : ¬ w0.heap.size = w.heap.size + 1 := fun e => by
              have h1 := hM3.st
              rw [← e, hbx3] at h1
              injection h1 with h1
              injection h1 with _ h1 _
              exact absurd h1 (by decide)
            have hbp' : ¬ w.heap.size + 1 = w0.heap.size := fun e => hbp e.symm
            have hL : ∀ j, j < 5 → (XS K A (zl (T.take i)) j).length ≤ 100000 := by
              intro j hj
              match j, hj with
              | 0, _ | 1, _ | 2, _ | 3, _ | 4, _ => simp [XS]; omega
            obtain ⟨sa, na, ca, wa, ra, da, ea, hMa, bxa, cea, cba, fza⟩ := hM3.run 24 0 (by omega) (.inl ⟨rfl, rfl⟩) (.int .u8 f.k) rfl (hL 0 (by omega)) 5
            obtain ⟨sb, nb, cb, wb, rb, db, eb, hMb, bxb, ceb, cbb, fzb⟩ := hMa.run 29 1 (by omega) (.inr (.inr ⟨rfl, by decide, by decide⟩)) (.int .i64 f.o) rfl (hL 1 (by omega)) 3
            obtain ⟨sc, nc, cc, wc, rc, dc, ec, hMc, bxc, cec, cbc, fzc⟩ := hMb.run 30 2 (by omega) (.inr (.inl ⟨rfl, rfl⟩)) (.string f.s) rfl (hL 2 (by omega)) 9
            obtain ⟨sd, nd, cd, wd, rd, dd, ed, hMd, bxd, ced, cbd, fzd⟩ := hMc.run 29 3 (by omega) (.inr (.inr ⟨rfl, by decide, by decide⟩)) (.int .i64 1) rfl (hL 3 (by omega)) 3
            obtain ⟨se, ne, ce, we, re, de, ee, hMe, bxe, cee, cbe, fze⟩ := hMd.run 29 4 (by omega) (.inr (.inr ⟨rfl, by decide, by decide⟩)) (.int .i64 (fz : Int)) rfl (hL 4 (by omega)) 3
            have hMk3 : Mk W0 (we.setCell ⟨w.heap.size + 1, 4, none⟩ (.slice se ne ce)) (w.heap.size + 1) T (i + 1) _ (K ++ [(f.q, 1)]) A :=
              Mk.new (HP.out.2.1 hnk) HP.out.2.2.1 HP.out.2.2.2.2.1 (by rw [HP.out.2.2.2.2.2.2.1, HP.out.2.2.2.2.2.2.2.1, HB.out]) HP.out.2.2.2.1 hMe (fun j hj => by
                match j, hj with
                | 0, _ => simp [upd, XS, Fr.q]
                | 1, _ => simp [upd, XS, Fr.q]
                | 2, _ => simp [upd, XS, Fr.q]
                | 3, _ => simp [upd, XS, Fr.q]
                | 4, _ => simp [upd, XS, HP.out.2.2.2.2.2.2.2.1]
                | 5, _ => rfl
                | 6, _ => rfl)
            have ka : wa.cell? ⟨w.heap.size + 1, 1, none⟩ = some (V 1) := (cea 1).trans hM3.cell.2.1
            have kb : wb.cell? ⟨w.heap.size + 1, 2, none⟩ = some (V 2) := (ceb 2).trans hMa.cell.2.2.1
            have kc : wc.cell? ⟨w.heap.size + 1, 3, none⟩ = some (V 3) := (cec 3).trans hMb.cell.2.2.2.1
            have kd : wd.cell? ⟨w.heap.size + 1, 4, none⟩ = some (V 4) := (ced 4).trans hMc.cell.2.2.2.2.1
            have db' : wb.cell? ⟨w.heap.size + 1, 1, none⟩ = some (V 1) := db
            have dc' : wc.cell? ⟨w.heap.size + 1, 2, none⟩ = some (V 2) := dc
            have dd' : wd.cell? ⟨w.heap.size + 1, 3, none⟩ = some (V 3) := dd
            have de' : we.cell? ⟨w.heap.size + 1, 4, none⟩ = some (V 4) := de
            have oa : wa.cell? ⟨w0.heap.size, 1, none⟩ = some (.int .i64 f.o) := (cba _ 1 _ hbx3).trans y1
            have hbxb := bxa _ _ hbx3
            have ob : wb.cell? ⟨w0.heap.size, 2, none⟩ = some (.string f.s) := (cbb _ 2 _ hbxb).trans (cells4 hbxb).2.2.1
            simp only [World.size_setCell] at rb rc rd re
            rw [hV0] at ra da
            have rb' : (Builtin.append_ #[29, 29] 29 #[V 1, .slice (some ⟨wa.heap.size, 0, none⟩) 1 1]).run Try.prog _ = _ := rb
            have rc' : (Builtin.append_ #[30, 30] 30 #[V 2, .slice (some ⟨wb.heap.size, 0, none⟩) 1 1]).run Try.prog _ = _ := rc
            have rd' : (Builtin.append_ #[29, 29] 29 #[V 3, .slice (some ⟨wc.heap.size, 0, none⟩) 1 1]).run Try.prog _ = _ := rd
            have re' : (Builtin.append_ #[29, 29] 29 #[V 4, .slice (some ⟨wd.heap.size, 0, none⟩) 1 1]).run Try.prog _ = _ := re
            have HRA := hide ra
            have HRB := hide rb'
            have HRC := hide rc'
            have HRD := hide rd'
            have HRE := hide re'
            have HMK3 := hide hMk3
            clear hMk3 hM3 hMa hMb hMc hMd hMe bxa bxb bxc bxd bxe cea ceb cec ced cee cba cbb cbc cbd cbe fza fzb fzc fzd fze ra rb rc rd re rb' rc' rd' re' db dc dd de hbx3 hbxb hne hnk hL
            go_wp2_with (at_builtin; refine wpList_append_eq rfl (.tmp 107) (.tmp 110) 24 rfl (.slice a0 K.length c0) (.slice (some ⟨wr.heap.size, 0, none⟩) 1 1) (.slice sa na ca) rfl rfl HRA.out rfl ?_; refine Hid.out ?_)
            refine hide ?_
            go_wp2_with (at_builtin; refine wpList_append_eq rfl (.tmp 114) (.tmp 117) 29 rfl (V 1) (.slice (some ⟨wa.heap.size, 0, none⟩) 1 1) (.slice sb nb cb) rfl rfl HRB.out rfl ?_; refine Hid.out ?_)
            refine hide ?_
            go_wp2_with (at_builtin; refine wpList_append_eq rfl (.tmp 121) (.tmp 124) 30 rfl (V 2) (.slice (some ⟨wb.heap.size, 0, none⟩) 1 1) (.slice sc nc cc) rfl rfl HRC.out rfl ?_; refine Hid.out ?_)
            refine hide ?_
            go_wp2_with (at_builtin; refine wpList_append_eq rfl (.tmp 128) (.tmp 129) 29 rfl (V 3) (.slice (some ⟨wc.heap.size, 0, none⟩) 1 1) (.slice sd nd cd) rfl rfl HRD.out rfl ?_; refine Hid.out ?_)
            refine hide ?_
            go_wp2_with (at_builtin; refine wpList_append_eq rfl (.tmp 133) (.tmp 135) 29 rfl (V 4) (.slice (some ⟨wd.heap.size, 0, none⟩) 1 1) (.slice se ne ce) rfl rfl HRE.out rfl ?_; refine Hid.out ?_)
            refine hide ?_
            go_wp2_with fail
            exact ⟨⟨i + 1, _, K ++ [(f.q, 1)], A, by go_num, by omega, HMK3.out⟩, by simp [intOf]; omega⟩
    · have hie : i = T.length := by omega
      have hres : w0.heap[w.heap.size]? = some (.cells #[.slice none 0 0, .slice none 0 0, .slice none 0 0, .slice none 0 0, .slice none 0 0, .slice none 0 0, .slice none 0 0, .int .i64 0, .int .i64 0] 32 (0, 0)) := (hMk.ms.below.block _ (by omega)).trans HW0.out.2
      obtain ⟨k0, k1, k2, k3, k4, k5, k6, k7, k8⟩ := hMk.ms.cell
      have hshape : ∀ j, j < 7 → ∃ a n c, V j = .slice a n c := by
        intro j hj
        rcases (hMk.ms.row j hj).2 with ⟨h2, h3⟩ | ⟨g', c', _, h2, _⟩ <;> exact ⟨_, _, _, h2⟩
      obtain ⟨a0, n0, c0, hv0⟩ := hshape 0 (by omega)
      obtain ⟨a1, n1, c1, hv1⟩ := hshape 1 (by omega)
      obtain ⟨a2, n2, c2, hv2⟩ := hshape 2 (by omega)
      obtain ⟨a3, n3, c3, hv3⟩ := hshape 3 (by omega)
      obtain ⟨a4, n4, c4, hv4⟩ := hshape 4 (by omega)
      obtain ⟨a5, n5, c5, hv5⟩ := hshape 5 (by omega)
      obtain ⟨a6, n6, c6, hv6⟩ := hshape 6 (by omega)
      rw [hv0] at k0
      rw [hv1] at k1
      rw [hv2] at k2
      rw [hv3] at k3
      rw [hv4] at k4
      rw [hv5] at k5
      rw [hv6] at k6
      obtain ⟨t0, s0, f0⟩ := cell_in (o := 0) hres (by simp)
      obtain ⟨t1, s1, f1⟩ := cell_in (o := 1) hres (by simp)
      obtain ⟨t2, s2, f2⟩ := cell_in (o := 2) hres (by simp)
      obtain ⟨t3, s3, f3⟩ := cell_in (o := 3) hres (by simp)
      obtain ⟨t4, s4, f4⟩ := cell_in (o := 4) hres (by simp)
      obtain ⟨t5, s5, f5⟩ := cell_in (o := 5) hres (by simp)
      obtain ⟨t6, s6, f6⟩ := cell_in (o := 6) hres (by simp)
      obtain ⟨t7, s7, f7⟩ := cell_in (o := 7) hres (by simp)
      obtain ⟨t8, s8, f8⟩ := cell_in (o := 8) hres (by simp)
      have hne1 : ¬ w.heap.size = w.heap.size + 1 := by omega
      have hne2 : ¬ w.heap.size + 1 = w.heap.size := by omega
      rw [hie] at hMk
      rw [hie, List.take_length] at k7 k8
      have HMKE := hide hMk
      have HRES := hide hres
      clear hMk hres
      go_wp2_with fail
      refine bodyPost_ret (v := .agg #[.slice a0 n0 c0, .slice a1 n1 c1, .slice a2 n2 c2, .slice a3 n3 c3, .slice a4 n4 c4, .slice a5 n5 c5, .slice a6 n6 c6, .int .i64 (bsum T), .int .i64 (fsum (wrt T))]) ?_ rfl ?_
      · have h9 := set9_blk HRES.out (.slice a0 n0 c0) (.slice a1 n1 c1) (.slice a2 n2 c2) (.slice a3 n3 c3) (.slice a4 n4 c4) (.slice a5 n5 c5) (.slice a6 n6 c6) (.int .i64 (bsum T)) (.int .i64 (fsum (wrt T)))
        unfold set9 at h9
        generalize ((((((((w0.setCell ⟨w.heap.size, 0, none⟩ (.slice a0 n0 c0)).setCell ⟨w.heap.size, 1, none⟩ (.slice a1 n1 c1)).setCell ⟨w.heap.size, 2, none⟩ (.slice a2 n2 c2)).setCell ⟨w.heap.size, 3, none⟩ (.slice a3 n3 c3)).setCell ⟨w.heap.size, 4, none⟩ (.slice a4 n4 c4)).setCell ⟨w.heap.size, 5, none⟩ (.slice a5 n5 c5)).setCell ⟨w.heap.size, 6, none⟩ (.slice a6 n6 c6)).setCell ⟨w.heap.size, 7, none⟩ (.int .i64 (bsum T))).setCell ⟨w.heap.size, 8, none⟩ (.int .i64 (fsum (wrt T))) = W9 at h9 ⊢
        have z0 : W9.cell? ⟨w.heap.size, 0, none⟩ = some (.slice a0 n0 c0) := by simp [World.cell?, h9]
        have z1 : W9.cell? ⟨w.heap.size, 1, none⟩ = some (.slice a1 n1 c1) := by simp [World.cell?, h9]
        have z2 : W9.cell? ⟨w.heap.size, 2, none⟩ = some (.slice a2 n2 c2) := by simp [World.cell?, h9]
        have z3 : W9.cell? ⟨w.heap.size, 3, none⟩ = some (.slice a3 n3 c3) := by simp [World.cell?, h9]
        have z4 : W9.cell? ⟨w.heap.size, 4, none⟩ = some (.slice a4 n4 c4) := by simp [World.cell?, h9]
        have z5 : W9.cell? ⟨w.heap.size, 5, none⟩ = some (.slice a5 n5 c5) := by simp [World.cell?, h9]
        have z6 : W9.cell? ⟨w.heap.size, 6, none⟩ = some (.slice a6 n6 c6) := by simp [World.cell?, h9]
        have z7 : W9.cell? ⟨w.heap.size, 7, none⟩ = some (.int .i64 (bsum T)) := by simp [World.cell?, h9]
        have z8 : W9.cell? ⟨w.heap.size, 8, none⟩ = some (.int .i64 (fsum (wrt T))) := by simp [World.cell?, h9]
        simp [results, Try.results7, go_sem, z0, z1, z2, z3, z4, z5, z6, z7, z8]
      · have hm := HMKE.out
        have hK := set9_keep w0 w.heap.size (.slice a0 n0 c0) (.slice a1 n1 c1) (.slice a2 n2 c2) (.slice a3 n3 c3) (.slice a4 n4 c4) (.slice a5 n5 c5) (.slice a6 n6 c6) (.int .i64 (bsum T)) (.int .i64 (fsum (wrt T)))
        have hms := hm.ms
        have hmm := hm.m
        have hma := hm.a
        rw [List.take_length] at hms hmm hma
        refine ⟨V, K, A, by rw [hv0, hv1, hv2, hv3, hv4, hv5, hv6], fun j hj => ?_, hmm, hma, by have := hm.kl; omega, ?_⟩
        · refine own_mono (own4_of_block (hms.row j hj) (fun g e => hK.block g ((hms.row j hj).lt g e).2 ?_)) (by omega)
          have := ((hms.row j hj).lt g e).1
          omega
        · exact (HW0.out.1.trans (hms.below.mono (by omega))).trans (hK.below (by have := hms.below.size; omega) (fun k e => by omega))

end Go.Proofs.Qxb6609323a
