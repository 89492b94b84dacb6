import Derived.Test.Qxb6609323aRows
import Derived.WalkKit
import Derived.ProofKit
import Derived.Below
import Derived.ArgAppend
import Derived.Lib.AppendStr
import Derived.Lib.Varint
import Derived.Lib.VarintMem
import Derived.Maps.AppendAt
namespace Go.Proofs.Qxb6609323a
open Go.RowKit
set_option linter.unusedVariables false

theorem hide {p : Prop} (h : p) : Hid p := h

theorem info5 : (Try.prog.info? 5).map (fun i => (i.zero, i.size, i.bytes)) = some (some (.int .u8 0), 1, 1) := by kernel_rfl

/-- v is a slice of n cells at the head of a row of its own, from block B on, whatever the row's type says -/
def Buf (B : Nat) (w : World) (v : Value) (n : Nat) : Prop :=
  ∃ g cap cur tag, v = .slice (some ⟨g, 0, none⟩) n cap ∧ B ≤ g ∧ w.heap[g]? = some (.cells cur tag (0, 0)) ∧ n ≤ cap ∧ cap ≤ maxLen ∧ cur.size = cap

theorem heap_setCells_other (g : Nat) : ∀ (vs : List Value) (o : Nat) (w : World) (k : Nat), k ≠ g → (w.setCells g o vs).heap[k]? = w.heap[k]?
  | [], _, _, _, _ => rfl
  | v :: r, o, w, k, h => by
    show ((w.setCell ⟨g, o, none⟩ v).setCells g (o + 1) r).heap[k]? = _
    rw [heap_setCells_other g r _ _ k h, Below.heap_setCell _ _ _ _ h]

theorem heap_setCells_same (g : Nat) : ∀ (vs : List Value) (o : Nat) (w : World) (cur : Array Value) (tag : TypeId), w.heap[g]? = some (.cells cur tag (0, 0)) → ∃ cur', (w.setCells g o vs).heap[g]? = some (.cells cur' tag (0, 0)) ∧ cur'.size = cur.size
  | [], _, _, cur, _, h => ⟨cur, h, rfl⟩
  | v :: r, o, w, cur, tag, h => by
    obtain ⟨c1, h1, h2⟩ := heap_setCells_same g r (o + 1) (w.setCell ⟨g, o, none⟩ v) _ tag (heap_setCell_same w g o _ _ v h)
    exact ⟨c1, h1, h2.trans (by simp)⟩

theorem below_setCells {B : Nat} (g : Nat) (hg : B ≤ g) : ∀ (vs : List Value) (o : Nat) (w : World), Below B w (w.setCells g o vs)
  | [], _, _ => Below.refl _ _
  | v :: r, o, w => ((Below.refl _ _).setCell (p := ⟨g, o, none⟩) hg v).trans (below_setCells g hg r _ _)

/-- nothing has turned but v's own row and new blocks; v' lies in v's row or in a new block -/
structure Gr (w w' : World) (v v' : Value) : Prop where
  grown : w.grownBy w' v.ownBlock
  loc : ∀ g, v'.ownBlock = some g → v.ownBlock = some g ∨ w.heap.size ≤ g

theorem Gr.refl (w : World) (v : Value) : Gr w w v v := ⟨⟨rfl, rfl, rfl, Nat.le_refl _, fun _ _ _ => rfl⟩, fun g h => .inl h⟩

theorem Gr.trans {w1 w2 w3 : World} {v1 v2 v3 : Value} (h : Gr w1 w2 v1 v2) (k : Gr w2 w3 v2 v3) : Gr w1 w3 v1 v3 := by
  refine ⟨⟨k.grown.os.trans h.grown.os, k.grown.tape.trans h.grown.tape, k.grown.output.trans h.grown.output, Nat.le_trans h.grown.size k.grown.size, fun i hi hne => ?_⟩, fun g e => ?_⟩
  · refine (k.grown.block i (Nat.lt_of_lt_of_le hi h.grown.size) (fun e => ?_)).trans (h.grown.block i hi hne)
    rcases h.loc i e.symm with h1 | h1
    · exact hne h1.symm
    · omega
  · rcases k.loc g e with h1 | h1
    · exact h.loc g h1
    · exact .inr (Nat.le_trans h.grown.size h1)

theorem Gr.after {w w' : World} {v v' : Value} (o : Obj) (h : Gr (w.alloc o) w' v v') : Gr w w' v v' := by
  refine ⟨(World.grownBy_alloc w o _).trans h.grown, fun g e => ?_⟩
  rcases h.loc g e with h1 | h1
  · exact .inl h1
  · simp at h1; exact .inr (by omega)

theorem Gr.below {B : Nat} {w w' : World} {v v' : Value} (h : Gr w w' v v') (hB : B ≤ w.heap.size) (hv : ∀ g, v.ownBlock = some g → B ≤ g) : Below B w w' :=
  (Below.refl _ _).grown h.grown hB hv

theorem Gr.kept {w w' : World} {v v' : Value} (h : Gr w w' v v') {k : Nat} (hk : k < w.heap.size) (hne : v.ownBlock ≠ some k) : w'.heap[k]? = w.heap[k]? :=
  h.grown.block k hk (fun e => hne e.symm)

theorem grown_setCells (g : Nat) (vs : List Value) (o : Nat) (w : World) : w.grownBy (w.setCells g o vs) (some g) := by
  have h := below_setCells (B := 0) g (Nat.zero_le _) vs o w
  exact ⟨h.os, h.tape, h.output, h.size, fun k _ hk => heap_setCells_other g vs o w k (fun e => hk (by rw [e]))⟩

section
variable {B n : Nat} {w : World} {v : Value}

theorem Buf.lt (h : Buf B w v n) : ∀ g, v.ownBlock = some g → B ≤ g ∧ g < w.heap.size := by
  obtain ⟨g, cap, cur, tag, rfl, hBg, hg, _⟩ := h
  intro k e
  cases e
  exact ⟨hBg, (Array.getElem?_eq_some_iff.1 hg).1⟩

theorem Buf.shape (h : Buf B w v n) : ∃ g cap, v = .slice (some ⟨g, 0, none⟩) n cap := by
  obtain ⟨g, cap, _, _, rfl, _⟩ := h
  exact ⟨g, cap, rfl⟩

/-- append(buf, x): one cell -/
theorem Buf.byte (h : Buf B w v n) (hB : B ≤ w.heap.size) (ty : TypeId) (a : Addr) (x : Int) (hx : w.cell? a = some (.int .u8 x)) (hn : n + 1 ≤ 140737488355328) :
    ∃ v' w', (Builtin.append_ #[24, 24] ty #[v, .slice (some a) 1 1]).run Try.prog w = .ok v' w' ∧ Buf B w' v' (n + 1) ∧ Gr w w' v v' := by
  obtain ⟨i5, hi, hz, hs, hb⟩ := info_parts info5
  obtain ⟨g, cap, cur, tag, rfl, hBg, hg, hnc, hcm, hcs⟩ := h
  have hnews : ∀ j u, [Value.int .u8 x][j]? = some u → w.cell? (a.add j) = some u := by
    intro j u hj
    match j, hj with
    | 0, hj => simp at hj; subst hj; simpa [Addr.add] using hx
  by_cases hroom : n + 1 ≤ cap
  · have hr := run_append_room_cells (P := Try.prog) w 24 ty 5 i5 Try.underlying24 hi g 0 n cap a 1 1 [.int .u8 x] (by rw [hs]; rfl) hnews (by intro u hu; simp at hu; subst hu; rfl) hroom
      (by intro j hj; simp at hj; subst hj; rw [hs]; simp [World.cell?, hg]; omega) (by intro j hj; simp [World.frozen?, hg])
    obtain ⟨c1, h1, h2⟩ := heap_setCells_same g [.int .u8 x] (0 + n * i5.size) w cur tag hg
    exact ⟨_, _, hr, ⟨g, cap, c1, tag, rfl, hBg, h1, hroom, hcm, h2.trans hcs⟩, ⟨grown_setCells g _ _ w, fun k e => .inl e⟩⟩
  · have hle : n ≤ cur.size := by omega
    obtain ⟨v', w', hr, ho, hgr⟩ := run_append_arg_grows (P := Try.prog) w 24 ty 5 i5 (.int .u8 0) 1 1 Try.underlying24 hi hz hs hb rfl (by decide) ⟨g, 0, none⟩ n cap (cur.toList.take n) (by simp; omega)
      (by
        intro j u hj
        have hjn : j < n := by
          rcases Nat.lt_or_ge j n with h | h
          · exact h
          · rw [List.getElem?_eq_none (by simp; omega)] at hj; cases hj
        rw [List.getElem?_take_of_lt hjn] at hj
        simpa [Addr.add_lit, World.cell?, hg] using hj) a 1 1 [.int .u8 x] rfl hnews (by omega) (by unfold maxLen; omega) (by omega)
    rcases ho.2 with ⟨_, h0⟩ | ⟨g', cap', cur', rfl, h1, h2, h3, h4, h5, _⟩
    · omega
    · exact ⟨_, _, hr, ⟨g', cap', cur', 5, rfl, by omega, h2, h3, h4, by omega⟩, ⟨⟨hgr.os, hgr.tape, hgr.output, hgr.size, fun k hk _ => hgr.block k hk (by simp)⟩, fun k e => by cases e; exact .inr h1⟩⟩

/-- append(buf, s...): a string -/
theorem Buf.str (h : Buf B w v n) (hB : B ≤ w.heap.size) (ty : TypeId) (s : ByteArray) (hn : n + s.size ≤ 140737488355328) :
    ∃ v' w', (Builtin.append_ #[24, 9] ty #[v, .string s]).run Try.prog w = .ok v' w' ∧ Buf B w' v' (n + s.size) ∧ Gr w w' v v' := by
  obtain ⟨i5, hi, hz, hs, hb⟩ := info_parts info5
  obtain ⟨g, cap, cur, tag, rfl, hBg, hg, hnc, hcm, hcs⟩ := h
  by_cases hroom : n + s.size ≤ cap
  · have hf := Lib.run_firstCells_string (P := Try.prog) w 1 s
    have hst := run_storeCells_cells (P := Try.prog) g n (Lib.strCells s) 0 w (by intro j hj; rw [Lib.strCells_length] at hj; simp [World.cell?, hg]; omega) (by intro j hj; simp [World.frozen?, hg]) (Lib.strCells_oneCell s)
    simp only [Nat.add_zero] at hst
    obtain ⟨c1, h1, h2⟩ := heap_setCells_same g (Lib.strCells s) n w cur tag hg
    refine ⟨.slice (some ⟨g, 0, none⟩) (n + s.size) cap, w.setCells g n (Lib.strCells s), ?_, ⟨g, cap, c1, tag, rfl, hBg, h1, hroom, hcm, h2.trans hcs⟩, ⟨grown_setCells g _ _ w, fun k e => .inl e⟩⟩
    simp [Builtin.append_, run_underlying Try.underlying24, run_underlying Try.underlying9, sizeOf, typeInfo, hi, hs, Builtin.lenOf, hroom, hf, Addr.add_lit, hst]
  · have hle : n ≤ cur.size := by omega
    have hr := Lib.run_append_grow_string (P := Try.prog) w 24 9 ty 5 i5 (.int .u8 0) Try.underlying24 Try.underlying9 hi hz ⟨g, 0, none⟩ n cap (cur.toList.take n) (by rw [hs]; simp; omega)
      (by
        intro j u hj
        have hjn : j < n := by
          rcases Nat.lt_or_ge j n with h | h
          · exact h
          · rw [List.getElem?_eq_none (by simp; omega)] at hj; cases hj
        rw [List.getElem?_take_of_lt hjn] at hj
        simpa [Addr.add_lit, World.cell?, hg] using hj) s (by omega) (by omega) (by rw [hb]; exact growslice_fits (by omega) (by omega))
    have hge := grownCap_ge w (n + s.size) cap 5
    have hcm' : grownCap w (n + s.size) cap 5 ≤ maxLen := grownCap_le_maxLen w (n + s.size) cap 5 (by unfold maxLen; omega)
    refine ⟨_, _, hr, ⟨w.heap.size, _, _, 5, rfl, hB, heap_alloc_new w.drew _, hge, hcm', ?_⟩, ?_⟩
    · have hzc : (Value.int .u8 0).cells.size = 1 := rfl
      simp only [Array.size_append, List.size_toArray, size_zeroCells, hzc, List.length_take, Array.length_toList, Lib.strCells_length]
      omega
    · exact ⟨⟨rfl, rfl, rfl, by simp, fun k hk _ => Below.heap_alloc w.drew _ k hk⟩, fun k e => by cases e; exact .inr (Nat.le_refl _)⟩
end

end Go.Proofs.Qxb6609323a
