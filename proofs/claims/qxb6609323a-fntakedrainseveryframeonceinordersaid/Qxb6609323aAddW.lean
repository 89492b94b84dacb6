import Derived.Test.Qxb6609323aAdd
import Derived.Deep.RegionLaw
namespace Go.Proofs.Qxb6609323a
open Go.RowKit Go.Maps Go.WideElems
open Go.ChangeMaps (setBlock modify_eq_set)
set_option linter.unusedVariables false

theorem step_append_eq {P : Program} {ops : Array Oper} {o : Oper} {a : Act} {w w' : World} {K : Act → World → Prop} {Q : Exit → Act → World → Prop} {E : Prop}
    (hg : o.guard = none) (s x : Operand) (t : TypeId) (hop : o.op = Op.call { callee := Callee.builtin Builtin.append, args := #[s, x], argTypes := #[t, t] }) (ty : TypeId) (hty : o.type = ty)
    (v xv v' : Value) (hs : a.eval s = v) (hx : a.eval x = xv) (hrun : (Builtin.append_ #[t, t] ty #[v, xv]).run P w = .ok v' w') (hK : K (a.put o.dst v') w') :
    if Region.wanted o (yielded ops a.tmps) = true then Oper.wp P o a w K Q else E := by
  have hw : Region.wanted o (yielded ops a.tmps) = true := by simp [Region.wanted, hg]
  rw [if_pos hw]
  subst hty
  unfold Oper.wp
  simp [execOp, hop, resolve, invoke, builtin, hs, hx, hrun, Result.andThen]
  exact hK

theorem step_delete_eq {P : Program} {ops : Array Oper} {o : Oper} {a : Act} {w w' : World} {K : Act → World → Prop} {Q : Exit → Act → World → Prop} {E : Prop}
    (hg : o.guard = none) (s x : Operand) (t k : TypeId) (hop : o.op = Op.call { callee := Callee.builtin Builtin.delete, args := #[s, x], argTypes := #[t, k] }) (ty : TypeId) (hty : o.type = ty)
    (v xv v' : Value) (hs : a.eval s = v) (hx : a.eval x = xv) (hrun : (Builtin.delete_ #[t, k] ty #[v, xv]).run P w = .ok v' w') (hK : K (a.put o.dst v') w') :
    if Region.wanted o (yielded ops a.tmps) = true then Oper.wp P o a w K Q else E := by
  have hw : Region.wanted o (yielded ops a.tmps) = true := by simp [Region.wanted, hg]
  rw [if_pos hw]
  subst hty
  unfold Oper.wp
  simp [execOp, hop, resolve, invoke, builtin, hs, hx, hrun, Result.andThen]
  exact hK

def zf : Value := .agg #[.int .i64 0, .string ByteArray.empty, .int .u8 0, .slice none 0 0]
theorem info55 : (Try.prog.info? 55).map (fun i => (i.zero, i.size, i.bytes)) = some (some zf, 4, 56) := by kernel_rfl

/-- append of one frame to the writes -/
theorem app44 (w : World) (base : Nat) (vw : Value) (F : List Fr) (f : Fr) (hown : w.ownsRow base 55 4 vw F.length (cellsOf F)) (hf : f.v.oneCell' = true) (g : Nat) (hg : w.heap[g]? = some (.cells #[.int .i64 f.o, .string f.s, .int .u8 f.k, f.v] 55 (0, 0)))
    (hn : F.length ≤ 100000) (hb : base ≤ w.heap.size) (ty : TypeId) :
    ∃ v' w', (Builtin.append_ #[44, 44] ty #[vw, .slice (some ⟨g, 0, none⟩) 1 1]).run Try.prog w = .ok v' w' ∧ w'.ownsRow base 55 4 v' (F ++ [f]).length (cellsOf (F ++ [f])) ∧ Keep (fun k => vw.ownBlock = some k) w w' ∧ (v'.ownBlock = vw.ownBlock ∨ v'.ownBlock = some w.heap.size) ∧ v'.oneCell' = true := by
  obtain ⟨i55, hi, hz, hs, hby⟩ := info_parts info55
  obtain ⟨v', w', h1, h2, h3, h4, h5⟩ := run_append_own_at (P := Try.prog) w base 44 ty 55 i55 zf 4 56 Try.underlying44 hi hz hs hby rfl (by decide) vw F.length (cellsOf F) hown ⟨g, 0, none⟩ 1 1 f.cells rfl
    (by
      intro j u hj
      have h4 : j < 4 := by
        have := (List.getElem?_eq_some_iff.1 hj).1
        exact this
      rw [← hj]
      simp only [Addr.add_lit, World.cell?, hg]
      match j, h4 with
      | 0, _ => rfl
      | 1, _ => rfl
      | 2, _ => rfl
      | 3, _ => rfl)
    (by
      intro u hu
      simp [Fr.cells] at hu
      rcases hu with rfl | rfl | rfl | rfl
      · rfl
      · rfl
      · rfl
      · exact hf) (by unfold maxLen; omega) (by omega) hb
  refine ⟨v', w', h1, ?_, ⟨h3.os, h3.tape, h3.output, h3.size, fun k hk hx => h3.block k hk (fun e => hx e.symm)⟩, h5, ?_⟩
  · rw [cellsOf_append, List.length_append]
    have : cellsOf [f] = f.cells := by simp [cellsOf]
    rw [this]
    exact h2
  · rcases h2.2 with ⟨rfl, _⟩ | ⟨g', c', _, rfl, _⟩ <;> rfl

theorem prep18 (base p clk : Nat) (vw : Value) (F : List Fr) (m : Option Nat) (L : List En) (z : Int) (f : Fr) (w : World) (h : Bt w base p vw F m L clk z) (hv : f.v.oneCell' = true) (hn : F.length ≤ 100000) (FR : Obj) (hFR : FR = .cells #[.int .i64 f.o, .string f.s, .int .u8 f.k, f.v] 55 (0, 0)) :
    Bt (((w.alloc FR).alloc FR).drew) base p vw F m L clk z ∧ (((w.alloc FR).alloc FR).drew).heap[w.heap.size]? = some FR ∧ ∃ vw' W3, (Builtin.append_ #[44, 44] 44 #[vw, .slice (some ⟨w.heap.size + 1, 0, none⟩) 1 1]).run Try.prog (((w.alloc FR).alloc FR).drew) = .ok vw' W3 ∧
      W3.cell? ⟨p, 0, none⟩ = some vw ∧ W3.frozen? ⟨p, 0, none⟩ = false ∧ Bt (W3.setCell ⟨p, 0, none⟩ vw') base p vw' (F ++ [f]) m L clk z ∧ (W3.setCell ⟨p, 0, none⟩ vw').heap[w.heap.size]? = some FR ∧ Keep (Bo p vw m) w (W3.setCell ⟨p, 0, none⟩ vw') ∧
      (vw'.ownBlock = vw.ownBlock ∨ ∃ g, vw'.ownBlock = some g ∧ w.heap.size ≤ g) ∧ vw'.oneCell' = true := by
  have hbase : base ≤ w.heap.size := Nat.le_trans h.ge (Nat.le_of_lt (h.lt p (.inl rfl)).2)
  have hA : Bt (w.alloc FR) base p vw F m L clk z := h.later ((Below.refl w.heap.size w).alloc (Nat.le_refl _) FR)
  have hD : Bt ((w.alloc FR).drew.alloc FR) base p vw F m L clk z := (hA.same (w' := (w.alloc FR).drew) (fun _ _ => rfl)).later ((Below.refl _ _).alloc (Nat.le_refl _) FR)
  have hb2 : ((w.alloc FR).drew.alloc FR).heap[w.heap.size + 1]? = some FR := by
    have h1 := Array.getElem?_push_size (xs := (w.alloc FR).heap) (x := FR)
    rw [World.size_alloc] at h1
    exact h1
  have hb3 : ((w.alloc FR).drew.alloc FR).heap[w.heap.size]? = some FR := by
    refine (Below.heap_alloc _ _ _ (by simp [World.drew])).trans ?_
    exact Array.getElem?_push_size
  obtain ⟨vw', W3, happ, hrow, hkeep, hloc, hone⟩ := app44 ((w.alloc FR).drew.alloc FR) base vw F f hD.row hv (w.heap.size + 1) (by rw [hb2, hFR]) hn (by simp [World.drew]; omega) 44
  have hp : W3.heap[p]? = ((w.alloc FR).drew.alloc FR).heap[p]? := hkeep.block p (hD.lt p (.inl rfl)).2 hD.p_ne_w
  have hx : W3.heap[w.heap.size]? = some FR := by
    refine (hkeep.block w.heap.size (by simp [World.drew]; omega) (fun e => ?_)).trans hb3
    have := (h.lt w.heap.size (.inr (.inl e))).2
    omega
  have hB3 : Bt W3 base p vw' (F ++ [f]) m L clk z → True := fun _ => trivial
  have hst : W3.heap[p]? = some (.cells #[vw, .map m, .int .i64 z] 47 (0, 0)) := hp.trans hD.st
  have hpw : p ≠ w.heap.size := by have := (h.lt p (.inl rfl)).2; omega
  refine ⟨hD, hb3, vw', W3, happ, by simp [World.cell?, hst], by simp [World.frozen?, hst], ?_, (Below.heap_setCell _ _ _ _ (Ne.symm hpw)).trans hx, ?_, ?_, hone⟩
  · have hs := heap_setCell_same W3 p 0 _ _ vw' hst
    refine ⟨hs, h.ge, own4_of_block hrow (fun g e => Below.heap_setCell W3 _ _ g (fun e' => ?_)), h.mno, fun b e => ⟨(h.mso b e).1, ?_⟩⟩
    · obtain ⟨cur, h1⟩ := own_row hrow e
      have e2 : g = p := e'
      rw [e2, hst] at h1
      cases h1
    · refine (hD.mso b e).2.same ((Below.heap_setCell W3 _ _ b (fun e' => h.p_ne_m (e.trans (congrArg some e')))).trans (hkeep.block b (hD.lt b (.inr (.inr e))).2 (hD.w_ne_m e)))
  · exact (((((Keep.refl (Bo p vw m) w).alloc FR).drew).alloc FR).trans hkeep (fun j _ e => .inr (.inl e))).setCell (.inl (.inl rfl)) _
  · rcases hloc with h1 | h1
    · exact .inl h1
    · exact .inr ⟨_, h1, by simp [World.drew]; omega⟩

set_option maxRecDepth 100000 in
set_option maxHeartbeats 4000000 in
theorem add18w (base p clk : Nat) (vw : Value) (F : List Fr) (m : Option Nat) (L : List En) (z : Int) (k o : Int) (s : ByteArray) (va : Option Addr) (vl vc : Nat) (w : World) (h : Bt w base p vw F m L clk z) (hk : k = 0 ∨ k = 1) (hs : s.size ≤ 1048576) (hv : vl ≤ 1048576)
    (hn : F.length ≤ 100000) (hz0 : -1000000000000 ≤ z) (hz1 : z ≤ 1000000000000) :
    Calls Try.prog 18 #[.pointer (some ⟨p, 0, none⟩), .agg #[.int .i64 o, .string s, .int .u8 k, .slice va vl vc]] w fun e w' => e = .returned (.tuple #[]) ∧ ∃ vw', Bt w' base p vw' (F ++ [⟨k, o, s, .slice va vl vc⟩]) m L clk (z + (fsz k o s.size vl : Int)) ∧
      (vw'.ownBlock = vw.ownBlock ∨ ∃ g, vw'.ownBlock = some g ∧ w.heap.size ≤ g) ∧ Keep (Bo p vw m) w w' := by
  obtain ⟨v0, v1, v2, rfl⟩ : ∃ a b c, vw = .slice a b c := by
    rcases h.row.2 with ⟨h0, _⟩ | ⟨g', c', _, h0, _⟩ <;> exact ⟨_, _, _, h0⟩
  obtain ⟨f, hf⟩ : ∃ f, fsz k o s.size vl = f := ⟨_, rfl⟩
  have hf1 : f ≤ 3000000 := by have := fsz_le (k := k) (o := o) hs hv; omega
  have hw2 : IntKind.i64.wrap (z + (f : Int)) = z + (f : Int) := wrap_small _ (by omega) (by omega)
  rw [hf]
  have hkb : (k == 0 || k == 1) = true := by rcases hk with rfl | rfl <;> rfl
  have hk0 : 0 ≤ k := by omega
  have hA := h.later ((Below.refl w.heap.size w).alloc (Nat.le_refl _) (.cells #[.int .i64 o, .string s, .int .u8 k, .slice va vl vc] 55 (0, 0)))
  have hA' := hA.same (w' := (w.alloc (.cells #[.int .i64 o, .string s, .int .u8 k, .slice va vl vc] 55 (0, 0))).drew) (fun _ _ => rfl)
  have hbox : (w.alloc (.cells #[.int .i64 o, .string s, .int .u8 k, .slice va vl vc] 55 (0, 0))).heap[w.heap.size]? = some (.cells #[.int .i64 o, .string s, .int .u8 k, .slice va vl vc] 55 (0, 0)) := Array.getElem?_push_size
  have H22 := hide (carries22 k (w.alloc (.cells #[.int .i64 o, .string s, .int .u8 k, .slice va vl vc] 55 (0, 0))))
  rw [hkb] at H22
  obtain ⟨hD, hb3, vw', W3, happ, c3, f3, hB4, hx4, hK4, hloc, hone⟩ := prep18 base p clk (.slice v0 v1 v2) F m L z ⟨k, o, s, .slice va vl vc⟩ w h rfl hn (.cells #[.int .i64 o, .string s, .int .u8 k, .slice va vl vc] 55 (0, 0)) rfl
  obtain ⟨x0, x1, x2, x3⟩ := cells4 (w := (w.alloc (.cells #[.int .i64 o, .string s, .int .u8 k, .slice va vl vc] 55 (0, 0))).drew) hbox
  obtain ⟨y0, y1, y2, y3⟩ := cells4 hb3
  have c0a := hA'.c0
  have c0b := hD.c0
  have HA := hide hA
  have HB4 := hide hB4
  have HX4 := hide hx4
  have HK4 := hide hK4
  have HH := hide h
  have HL := hide hloc
  have HF := hide (And.intro hk (And.intro hk0 (And.intro hs (And.intro hv hf))))
  obtain ⟨vo, vl', vc', rfl⟩ : ∃ a b c, vw' = .slice a b c := by
    rcases hB4.row.2 with ⟨h0, _⟩ | ⟨g', c', _, h0, _⟩ <;> exact ⟨_, _, _, h0⟩
  clear hA hA' hbox hD hb3 hB4 hx4 hK4 h hloc hone hk hk0 hs hv hf hf1 hz0 hz1 hn hkb
  go_enter Try.func18, Try.ntmps18
  go_upto_region 2 with (go_at_call 22; refine H22.out.mono ?_; rintro e w' ⟨rfl, rfl⟩)
  go_cut [] (fun wx => wx = W3.setCell ⟨p, 0, none⟩ (.slice vo vl' vc'))
  case first =>
    go_region_law (refine step_append_eq rfl (.tmp 12) (.tmp 14) 44 rfl 44 rfl _ _ _ rfl rfl happ ?_)
    all_goals (go_wp2_with fail; go_meet; rfl)
  case rest =>
    have hB5 := HB4.out.same (w' := wc.drew) (fun _ _ => by rw [hcut]; rfl)
    have hK5 : Keep (Bo p (.slice v0 v1 v2) m) w wc.drew := by rw [hcut]; exact HK4.out.drew
    have hx5 : wc.drew.heap[w.heap.size]? = some (.cells #[.int .i64 o, .string s, .int .u8 k, .slice va vl vc] 55 (0, 0)) := (by rw [hcut]; exact HX4.out)
    clear happ c3 f3 hcut
    have c2 := hB5.c2
    have f2 := hB5.fz 2
    obtain ⟨y0, y1, y2, y3⟩ := cells4 hx5
    have HB5 := hide hB5
    have HK5 := hide hK5
    clear hB5 hK5 hx5
    go_upto_region 3 with fail
    go_region_with (go_at_call 23; refine (fsize23 k o s va vl vc _ HF.out.2.1 HF.out.2.2.1 HF.out.2.2.2.1 (.inl HF.out.1)).mono ?_; rintro e w2 ⟨rfl, hb2⟩; rw [HF.out.2.2.2.2]; have hB6 := hide (HB5.out.later hb2); have c2b := hB6.out.c2; have f2b := hB6.out.fz 2; have HK6 := hide (hb2); clear hb2)
    all_goals
      go_wp2_with fail
      refine bodyPost_ret (results_none rfl _ _ _) rfl ?_
      refine ⟨rfl, _, hB6.out.setSize _, HL.out, ?_⟩
      exact (HK5.out.trans (Keep.of_below (X := fun _ => False) HK6.out) (fun _ _ h => h.elim)).setCell (.inl (.inl rfl)) _

set_option maxRecDepth 100000 in
set_option maxHeartbeats 4000000 in
theorem add18b (base p clk : Nat) (vw : Value) (F : List Fr) (m : Option Nat) (L : List En) (z : Int) (k o : Int) (s : ByteArray) (va : Option Addr) (vl vc : Nat) (w : World) (h : Bt w base p vw F m L clk z) (hk : KOk k o s) (hk1 : 1 < k) (hs : s.size ≤ 1048576)
    (hz0 : -1000000000000 ≤ z) (hz1 : z ≤ 1000000000000) (hc0 : -1000000000000 ≤ cnt L k o s) (hc1 : cnt L k o s ≤ 1000000000000) :
    Calls Try.prog 18 #[.pointer (some ⟨p, 0, none⟩), .agg #[.int .i64 o, .string s, .int .u8 k, .slice va vl vc]] w fun e w' => e = .returned (.tuple #[]) ∧ ∃ b c0 clk', Bt w' base p vw F (some b) (bump L k o s (cnt L k o s + 1) c0) clk' (z + (fsz k o s.size 0 : Int)) ∧
      (m = some b ∨ (m = none ∧ w.heap.size ≤ b)) ∧ Keep (Bo p vw m) w w' := by
  have hkb : (k == 0 || k == 1) = false := by
    rw [Bool.or_eq_false_iff, beq_eq_false_iff_ne, beq_eq_false_iff_ne]
    exact ⟨by omega, by omega⟩
  have hA := h.later ((Below.refl w.heap.size w).alloc (Nat.le_refl _) (.cells #[.int .i64 o, .string s, .int .u8 k, .slice va vl vc] 55 (0, 0)))
  have hbox : (w.alloc (.cells #[.int .i64 o, .string s, .int .u8 k, .slice va vl vc] 55 (0, 0))).heap[w.heap.size]? = some (.cells #[.int .i64 o, .string s, .int .u8 k, .slice va vl vc] 55 (0, 0)) := Array.getElem?_push_size
  have H22 := hide (carries22 k (w.alloc (.cells #[.int .i64 o, .string s, .int .u8 k, .slice va vl vc] 55 (0, 0))))
  rw [hkb] at H22
  obtain ⟨x0, x1, x2, x3⟩ := cells4 hbox
  have H24 := hide (bare24 base p clk vw F m L z 1 k o s _ hA hk (by omega) hs hz0 hz1 (by omega) (by omega) hc0 hc1)
  have HK0 := hide ((Keep.refl (Bo p vw m) w).alloc (.cells #[.int .i64 o, .string s, .int .u8 k, .slice va vl vc] 55 (0, 0)))
  clear hA hbox h hk hk1 hs hz0 hz1 hc0 hc1 hkb
  go_enter Try.func18, Try.ntmps18
  go_wp2_with (go_at_call 22; refine H22.out.mono ?_; rintro e w' ⟨rfl, rfl⟩)
  refine H24.out.mono ?_
  rintro e w' ⟨rfl, b, c0, clk', hB, hmb, hK⟩
  rw [Int.one_mul] at hB
  go_wp2_with fail
  go_end0
  refine ⟨rfl, b, c0, clk', hB, ?_, HK0.out.trans hK (fun _ _ h => h)⟩
  rcases hmb with h1 | ⟨h1, h2⟩
  · exact .inl h1
  · exact .inr ⟨h1, by simp at h2; omega⟩

end Go.Proofs.Qxb6609323a
