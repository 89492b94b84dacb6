import Derived.Test.Qxb6609323aClone
import Derived.Deep.RegionHeld3
namespace Go.Proofs.Qxb6609323a
open Go.RowKit Go.Maps Go.WideElems
set_option linter.unusedVariables false

theorem Below.undrew {a c : World} (h : Below a.drew.heap.size a.drew c) : Below a.heap.size a c := ⟨h.os, h.tape, h.output, h.size, h.block⟩

def zt : Value := .agg #[.int .u8 0, .int .i64 0, .string ByteArray.empty, .slice none 0 0]
theorem info26 : (Try.prog.info? 26).map (fun i => (i.zero, i.size, i.bytes)) = some (some zt, 4, 56) := by kernel_rfl

theorem Vc.mono {w : World} {B B' : Nat} {va : Option Addr} {vl : Nat} (h : Vc w B va vl) (hB : B' ≤ B) : Vc w B' va vl := by
  rcases h with h1 | ⟨g, cur, h1, h2, h3⟩
  · exact .inl h1
  · exact .inr ⟨g, cur, h1, Nat.le_trans hB h2, h3⟩

/-- the state of the cloning loop -/
structure Ck (W0 wr : World) (g n : Nat) (T T' : List Fr) (i : Nat) : Prop where
  len : T'.length = i
  d : T'.map Fr.d = (T.take i).map Fr.d
  blk : ∃ cur, wr.heap[g]? = some (.cells cur 26 (0, 0)) ∧ cur.size = n * 4
  at' : ∀ j f, T'[j]? = some f → FAt wr g (j * 4) f
  vals : ∀ f ∈ T', ∃ va vl vc, f.v = .slice va vl vc ∧ Vc wr W0.heap.size va vl
  below : Below W0.heap.size W0 wr

theorem Ck.later {W0 wr w' : World} {g n : Nat} {T T' : List Fr} {i : Nat} (h : Ck W0 wr g n T T' i) (hb : Below wr.heap.size wr w') : Ck W0 w' g n T T' i := by
  obtain ⟨cur, h1, h2⟩ := h.blk
  refine ⟨h.len, h.d, ⟨cur, (hb.block g (heap_lt h1)).trans h1, h2⟩, fun j f hf => (h.at' j f hf).later hb, fun f hf => ?_, h.below.trans (hb.mono h.below.size)⟩
  obtain ⟨va, vl, vc, e, hv⟩ := h.vals f hf
  exact ⟨va, vl, vc, e, hv.stat (Stat.of_below hb)⟩

theorem cell_in {w : World} {g o : Nat} {cur : Array Value} {t : TypeId} (h : w.heap[g]? = some (.cells cur t (0, 0))) (ho : o < cur.size) : ∃ x, w.cell? ⟨g, o, none⟩ = some x ∧ w.frozen? ⟨g, o, none⟩ = false := by
  refine ⟨cur[o], ?_, ?_⟩
  · simp [World.cell?, h, ho]
  · simp [World.frozen?, h]

def set4 (w : World) (g o : Nat) (a0 a1 a2 a3 : Value) : World := (((w.setCell ⟨g, o, none⟩ a0).setCell ⟨g, o + 1, none⟩ a1).setCell ⟨g, o + 2, none⟩ a2).setCell ⟨g, o + 3, none⟩ a3
theorem set4_eq (w : World) (g o : Nat) (a0 a1 a2 a3 : Value) : set4 w g o a0 a1 a2 a3 = w.setCells g o [a0, a1, a2, a3] := rfl

theorem keep4 {W : World} {g g' o q : Nat} {v a0 a1 a2 a3 : Value} (h : W.cell? ⟨g', q, none⟩ = some v) (hne : g' ≠ g) : (((W.setCell ⟨g, o, none⟩ a0).setCell ⟨g, o + 1, none⟩ a1).setCell ⟨g, o + 2, none⟩ a2 |>.setCell ⟨g, o + 3, none⟩ a3).cell? ⟨g', q, none⟩ = some v := by
  have e : (set4 W g o a0 a1 a2 a3).heap[g']? = W.heap[g']? := by
    rw [set4_eq]
    exact heap_setCells_other g [a0, a1, a2, a3] o W g' hne
  have h2 : (set4 W g o a0 a1 a2 a3).cell? ⟨g', q, none⟩ = W.cell? ⟨g', q, none⟩ := World.cell?_of_block (w := W) e
  exact h2.trans h

theorem Ck.step {W0 wr : World} {g n : Nat} {T T' : List Fr} {i : Nat} {f : Fr} (h : Ck W0 wr g n T T' i) (hf : T[i]? = some f) (hn : i < n) (hg : W0.heap.size ≤ g) (va : Option Addr) (vl vc vc0 : Nat) (va0 : Option Addr) (hfv : f.v = .slice va0 vl vc0) (hvc : Vc wr W0.heap.size va vl) :
    Ck W0 (set4 wr g (i * 4) (.int .u8 f.k) (.int .i64 f.o) (.string f.s) (.slice va vl vc)) g n T (T' ++ [⟨f.k, f.o, f.s, .slice va vl vc⟩]) (i + 1) := by
  obtain ⟨cur, h1, h2⟩ := h.blk
  have hset : ∀ va vl, Vc wr W0.heap.size va vl → Vc (wr.setCells g (i * 4) [.int .u8 f.k, .int .i64 f.o, .string f.s, .slice va vl vc]) W0.heap.size va vl := fun va vl hv => by
    have hb := below_setCells (B := 0) g (Nat.zero_le _) [.int .u8 f.k, .int .i64 f.o, .string f.s, .slice va vl vc] (i * 4) wr
    rcases hv with h3 | ⟨g', c', h3, h4, h5, h6⟩
    · exact .inl h3
    · refine .inr ⟨g', c', h3, h4, (heap_setCells_other g _ _ _ g' (fun e => ?_)).trans h5, h6⟩
      rw [e, h1] at h5
      cases h5
  have hsome : ∀ j, j < 4 → (wr.cell? ⟨g, i * 4 + j, none⟩).isSome = true := by
    intro j hj
    simp [World.cell?, h1]
    omega
  rw [set4_eq]
  obtain ⟨c1, h3, h4⟩ := heap_setCells_same g [.int .u8 f.k, .int .i64 f.o, .string f.s, .slice va vl vc] (i * 4) wr cur 26 h1
  refine ⟨by simp [h.len], ?_, ⟨c1, h3, by omega⟩, fun j f' hf' => ?_, fun f' hf' => ?_, h.below.trans (below_setCells g hg _ _ _)⟩
  · rw [List.map_append, h.d, List.take_add_one, hf, List.map_append]
    congr 1
    simp [Fr.d, hfv, vlen]
  · by_cases hj : j < i
    · rw [List.getElem?_append_left (by have := h.len; omega)] at hf'
      obtain ⟨q0, q1, q2, q3⟩ := h.at' j f' hf'
      refine ⟨?_, ?_, ?_, ?_⟩
      · rw [World.cell?_setCells_out g _ _ _ _ (fun _ _ => .inl (by show j * 4 < i * 4; omega))]; exact q0
      · rw [World.cell?_setCells_out g _ _ _ _ (fun _ _ => .inl (by show j * 4 + 1 < i * 4; omega))]; exact q1
      · rw [World.cell?_setCells_out g _ _ _ _ (fun _ _ => .inl (by show j * 4 + 2 < i * 4; omega))]; exact q2
      · rw [World.cell?_setCells_out g _ _ _ _ (fun _ _ => .inl (by show j * 4 + 3 < i * 4; omega))]; exact q3
    · have hl := h.len
      have hjlt := (List.getElem?_eq_some_iff.1 hf').1
      simp at hjlt
      have hji : j = i := by omega
      subst hji
      rw [List.getElem?_append_right (by omega), hl, Nat.sub_self] at hf'
      simp at hf'
      subst hf'
      have hin := World.cell?_setCells_in g [.int .u8 f.k, .int .i64 f.o, .string f.s, .slice va vl vc] (j * 4) wr hsome
      exact ⟨hin 0 (by simp), hin 1 (by simp), hin 2 (by simp), hin 3 (by simp)⟩
  · rcases List.mem_append.1 hf' with hm | hm
    · obtain ⟨va', vl', vc', e, hv⟩ := h.vals f' hm
      refine ⟨va', vl', vc', e, ?_⟩
      rcases hv with h5 | ⟨g', c', h5, h6, h7, h8⟩
      · exact .inl h5
      · refine .inr ⟨g', c', h5, h6, (heap_setCells_other g _ _ _ g' (fun e => ?_)).trans h7, h8⟩
        rw [e, h1] at h7
        cases h7
    · simp at hm
      subst hm
      exact ⟨va, vl, vc, rfl, hset va vl hvc⟩

set_option maxRecDepth 100000 in
set_option maxHeartbeats 4000000 in
theorem clone6 (v : Value) (T : List Fr) (w : World) (h : Fs w v T) (ha : ∀ f ∈ T, AOk w f) (hl : T.length ≤ 4096) (hvl : ∀ f ∈ T, vlen f.v ≤ 1048576) :
    Calls Try.prog 6 #[v] w fun e w' => ∃ v' T', e = .returned v' ∧ Cl w' w.heap.size v' T' ∧ T'.map Fr.d = T.map Fr.d ∧ Below w.heap.size w w' := by
  obtain ⟨⟨a, c, rfl, han⟩, h2⟩ := h
  cases a with
  | none =>
    obtain rfl := han rfl
    have hnil : ∀ W n c, (binOp .eql 22 (.slice none n c) (.slice none 0 0)).run Try.prog W = .ok (.bool true) W := fun W n c => Lib.run_eql_slice_nil W _ _ none n c 0 0 Try.underlying22
    go_enter Try.func6, Try.ntmps6
    go_wp2_with fail
    go_ret
    exact ⟨_, rfl, [], ⟨.inl ⟨rfl, _, _, rfl⟩, (fun f hf => by cases hf)⟩, rfl, Below.refl _ _⟩
  | some ad =>
    have hnil : ∀ W n c, (binOp .eql 22 (.slice (some ad) n c) (.slice none 0 0)).run Try.prog W = .ok (.bool false) W := fun W n c => Lib.run_eql_slice_nil W _ _ (some ad) n c 0 0 Try.underlying22
    obtain ⟨i26, hi26, hz, hs, hby⟩ := info_parts info26
    obtain ⟨w1, hmk, hrow, hgr⟩ := run_make_full (P := Try.prog) w w.heap.size 22 26 i26 zt 4 Try.underlying22 hi26 hz hs .i64 .i64 T.length (by rw [hby]; omega) (by unfold maxLen; omega) (Nat.le_refl _)
    have hck : Ck w w1 w.heap.size T.length T [] 0 := by
      rcases hrow.2 with ⟨h0, _⟩ | ⟨g, cap, cur, e, h3, h4, h5, h6, h7, _⟩
      · cases h0
      · cases e
        exact ⟨rfl, rfl, ⟨cur, h4, h7⟩, (fun j f hf => by simp at hf), (fun f hf => by cases hf), (Below.refl _ _).grown hgr (Nat.le_refl _) (fun k e => by cases e)⟩
    have HCK := hide hck
    have HA := hide ha
    clear hck hrow hgr ha
    go_enter Try.func6, Try.ntmps6
    go_wp2_with fail
    go_loopw [4] (fun vi wr => ∃ (i : Nat) (T' : List Fr), vi = .int .i64 (i : Int) ∧ i ≤ T.length ∧ Ck w wr w.heap.size T.length T T' i) (fun vi _ => T.length - (intOf vi).toNat)
    case atStart => exact ⟨0, [], rfl, Nat.zero_le _, HCK.out⟩
    case round =>
      obtain ⟨i, T', rfl, hi, hck⟩ := hrel
      by_cases hlt : i < T.length
      · obtain ⟨g, off, c', hv, hc⟩ := h2 (by omega)
        cases hv
        obtain ⟨f, hf⟩ : ∃ f, T[i]? = some f := ⟨_, List.getElem?_eq_getElem hlt⟩
        have hfm := List.mem_of_getElem? hf
        have hfa := (hc i f hf).later (hck.below)
        obtain ⟨va, vl, vc, hfv, hvl', hvr⟩ := (HA.out f hfm).v
        have hvl2 : vl ≤ 1048576 := by have := hvl f hfm; rw [hfv] at this; exact this
        obtain ⟨q0, q1, q2, q3⟩ := hfa
        rw [hfv] at q3
        have H17 := hide (clone17c va vl vc wr.drew hvl2 (hvr.later hck.below.drew))
        have HCK1 := hide hck
        have HF := hide (And.intro hf hfv)
        have HFA := hide ((hc i f hf).later (hck.below))
        have HGL := hide (Nat.ne_of_lt (cell_lt (hc i f hf).1) : g ≠ w.heap.size)
        clear hck hf hfv hvl' hvr hvl2 hc h2
        go_upto_region 7 with fail
        have hi0 : (0 : Int) ≤ (i : Int) := by omega
        have hgne : g ≠ w.heap.size := HGL.out
        have hi1 : (i : Int) < (T.length : Int) := by omega
        go_region_held3 (fun W => W.cell? ⟨g, off + i * 4, none⟩ = some (.int .u8 f.k) ∧ W.cell? ⟨g, off + i * 4 + 1, none⟩ = some (.int .i64 f.o) ∧ W.cell? ⟨g, off + i * 4 + 2, none⟩ = some (.string f.s) ∧ W.cell? ⟨g, off + i * 4 + 3, none⟩ = some (.slice va vl vc)) (first | exact ⟨q0, q1, q2, q3⟩ | exact ⟨r0, r1, r2, r3⟩ | exact ⟨keep4 r0 hgne, keep4 r1 hgne, keep4 r2 hgne, keep4 r3 hgne⟩ | go_keep)
          ((go_at_call 17; refine H17.out.mono ?_; rintro e w2 ⟨va', vc', rfl, hvc, hb2⟩; replace hb2 := Below.undrew hb2; have HVC := hide (And.intro hvc hb2); obtain ⟨r0, r1, r2, r3⟩ := HFA.out.later (w := wr) (w' := w2) hb2; rw [HF.out.2] at r3; obtain ⟨cur, hcur, hcs⟩ := (HCK1.out.later (w' := w2) hb2).blk; obtain ⟨t0, s0, z0⟩ := cell_in (o := i * 4) hcur (by omega); obtain ⟨t1, s1, z1⟩ := cell_in (o := i * 4 + 1) hcur (by omega); obtain ⟨t2, s2, z2⟩ := cell_in (o := i * 4 + 2) hcur (by omega); obtain ⟨t3, s3, z3⟩ := cell_in (o := i * 4 + 3) hcur (by omega); clear hvc hb2 hcur hcs))
        all_goals
          have hst := (HCK1.out.later (w' := w2) HVC.out.2).step HF.out.1 hlt (Nat.le_refl _) va' vl vc' vc va HF.out.2 (HVC.out.1.mono HCK1.out.below.size)
          go_wp2_with fail
          go_roundw
          case rel => exact ⟨i + 1, _, by go_num, by omega, hst⟩
          case measure => simp [intOf]; omega
      · have hie : i = T.length := by omega
        go_wp2_with fail
        go_ret
        refine ⟨_, T', rfl, ⟨.inr ?_, hck.vals⟩, ?_, hck.below⟩
        · obtain ⟨cur, h5, _⟩ := hck.blk
          exact ⟨_, cur, by rw [hck.len, hie]; rfl, Nat.le_refl _, h5, hck.at'⟩
        · rw [hck.d, hie, List.take_length]

end Go.Proofs.Qxb6609323a
