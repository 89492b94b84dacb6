import Derived.Test.Qxb6609323aBuf
import Derived.WalkSpells
import Derived.WalkLawsBesides
import Derived.Deep.QuietTactic
import Derived.Deep.RegionWith
import Derived.BigRegion
import Derived.Deep.DeepCutAuto
import Derived.BigQuiet
import Derived.Lib.Walk
namespace Go.Proofs.Qxb6609323a
open Go.RowKit
set_option linter.unusedVariables false

section
variable {ops : Array Oper} {rest : List Oper} {o : Oper} {a : Act} {Q : Exit → Act → World → Prop}

theorem wpList_buf_byte {w : World} (hgd : o.guard = none) (s x : Operand) (ho : o.op = .call { callee := .builtin .append, args := #[s, x], argTypes := #[24, 24] }) (B n : Nat) (v : Value) (hs : a.eval s = v) (hown : Buf B w v n)
    (ad : Addr) (hx : a.eval x = .slice (some ad) 1 1) (val : Int) (hc : w.cell? ad = some (.int .u8 val)) (hB : B ≤ w.heap.size) (hn : n + 1 ≤ 140737488355328)
    (h : ∀ v' w', Buf B w' v' (n + 1) → Gr w w' v v' → wpList Try.prog ops Q rest (a.put o.dst v') w') : wpList Try.prog ops Q (o :: rest) a w := by
  refine wpList_plain hgd fun K hK => ?_
  obtain ⟨v', w', hr, h2, h3⟩ := hown.byte hB o.type ad val hc hn
  unfold Oper.wp execOp
  simp only [ho, resolve, invoke, builtin, Sem.run_bind, Sem.run_pure, Result.andThen_ok, List.map_toArray, List.map_cons, List.map_nil, hs, hx, hr]
  exact hK _ _ (h v' w' h2 h3)

theorem wpList_buf_str {w : World} (hgd : o.guard = none) (s x : Operand) (ho : o.op = .call { callee := .builtin .append, args := #[s, x], argTypes := #[24, 9] }) (B n : Nat) (v : Value) (hs : a.eval s = v) (hown : Buf B w v n)
    (st : ByteArray) (hx : a.eval x = .string st) (hB : B ≤ w.heap.size) (hn : n + st.size ≤ 140737488355328)
    (h : ∀ v' w', Buf B w' v' (n + st.size) → Gr w w' v v' → wpList Try.prog ops Q rest (a.put o.dst v') w') : wpList Try.prog ops Q (o :: rest) a w := by
  refine wpList_plain hgd fun K hK => ?_
  obtain ⟨v', w', hr, h2, h3⟩ := hown.str hB o.type st hn
  unfold Oper.wp execOp
  simp only [ho, resolve, invoke, builtin, Sem.run_bind, Sem.run_pure, Result.andThen_ok, List.map_toArray, List.map_cons, List.map_nil, hs, hx, hr]
  exact hK _ _ (h v' w' h2 h3)
end

theorem Buf.alloc {B n : Nat} {w : World} {v : Value} (h : Buf B w v n) (o : Obj) : Buf B (w.alloc o) v n := by
  obtain ⟨g, cap, cur, tag, rfl, hBg, hg, rest⟩ := h
  exact ⟨g, cap, cur, tag, rfl, hBg, (Below.heap_alloc w o g (Array.getElem?_eq_some_iff.1 hg).1).trans hg, rest⟩

/-- how many bytes x takes -/
def ulen (x : Nat) : Nat := (Lib.uvarint x).length
theorem ulen_small {x : Nat} (h : x < 128) : ulen x = 1 := by unfold ulen; rw [Lib.uvarint_small h]; rfl
theorem ulen_big {x : Nat} (h : 128 ≤ x) : ulen x = ulen (x / 128) + 1 := by unfold ulen; rw [Lib.uvarint_big h]; rfl
theorem ulen_le {x : Nat} (h : x < 18446744073709551616) : ulen x ≤ 10 := Lib.uvarint_length64 h
theorem ulen_pos (x : Nat) : 1 ≤ ulen x := by
  by_cases h : x < 128
  · rw [ulen_small h]; omega
  · rw [ulen_big (by omega)]; omega

set_option maxRecDepth 100000 in
set_option maxHeartbeats 4000000 in
theorem uv29 (B n x : Nat) (hx : x < 18446744073709551616) (v : Value) (w : World) (hbuf : Buf B w v n) (hB : B ≤ w.heap.size) (hn : n + 10 ≤ 140737488355328) :
    Calls Try.prog 29 #[v, .int .u64 x] w fun e w' => ∃ v', e = .returned v' ∧ Buf B w' v' (n + ulen x) ∧ Gr w w' v v' := by
  have hlen := ulen_le hx
  go_enter Try.func29, Try.ntmps29
  go_wp2
  go_loopw [0, 1] (fun vb vx wr => ∃ (y m : Nat), vx = .int .u64 y ∧ y ≤ x ∧ ulen x = m + ulen y ∧ Buf B wr vb (n + m) ∧ Gr w wr v vb) (fun _ vx _ => (intOf vx).toNat)
  case atStart => exact ⟨x, 0, rfl, Nat.le_refl _, by omega, hbuf, Gr.refl _ _⟩
  case round =>
    obtain ⟨y, m, rfl, hy, hsplit, hb1, hnx⟩ := hrel
    have hyp := ulen_pos y
    have hsz : B ≤ wr.heap.size := Nat.le_trans hB hnx.grown.size
    obtain ⟨g, cap, rfl⟩ := hb1.shape
    have HB1 := hide hb1
    have HNX := hide hnx
    clear hb1 hnx
    by_cases h128 : 128 ≤ y
    · have hor : bits .or .u8 ((y : Int) % 256) 128 = ((y % 128 + 128 : Nat) : Int) := by
        rw [Lib.u8_or128_any _ (by omega) (by omega)]
        omega
      go_wp2_with (at_builtin; refine wpList_buf_byte rfl (.tmp 7) (.tmp 11) rfl B (n + m) _ rfl (HB1.out.alloc _) ⟨wr.heap.size, 0, none⟩ rfl ((y : Int) % 128 + 128) ?c1 ?c2 ?c3 ?_)
      case c1 => simp
      case c2 => simp; omega
      case c3 => omega
      intro v' w1 hb2 hbel
      obtain ⟨g2, cap2, rfl⟩ := hb2.shape
      have HB2 := hide hb2
      have HBEL := hide (HNX.out.trans (Gr.after _ hbel))
      clear hb2 hbel
      go_wp2
      go_roundw
      case rel =>
        refine ⟨y / 128, m + 1, by go_num, by omega, by rw [hsplit, ulen_big h128]; omega, HB2.out, HBEL.out⟩
      case measure => simp [intOf]; omega
    · have hsm : ulen y = 1 := ulen_small (by omega)
      go_wp2_with (at_builtin; refine wpList_buf_byte rfl (.tmp 15) (.tmp 18) rfl B (n + m) _ rfl (HB1.out.alloc _) ⟨wr.heap.size, 0, none⟩ rfl (y : Int) ?c1 ?c2 ?c3 ?_)
      case c1 => simp
      case c2 => simp; omega
      case c3 => omega
      intro v' w1 hb2 hbel
      obtain ⟨g2, cap2, rfl⟩ := hb2.shape
      have HB2 := hide hb2
      have HBEL := hide (HNX.out.trans (Gr.after _ hbel))
      clear hb2 hbel
      go_wp2
      go_ret
      refine ⟨_, rfl, ?_, HBEL.out⟩
      rw [hsplit, hsm, ← Nat.add_assoc]
      exact HB2.out

set_option maxRecDepth 100000 in
set_option maxHeartbeats 4000000 in
theorem len16 (x : Nat) (hx : x < 18446744073709551616) (w : World) : Calls Try.prog 16 #[.int .u64 x] w fun e w' => e = .returned (.int .i64 (ulen x : Int)) ∧ w' = w := by
  have hlen := ulen_le hx
  go_enter Try.func16, Try.ntmps16
  go_wp2
  go_loop [0, 3] (fun vx vn => ∃ (y m : Nat), vx = .int .u64 y ∧ y ≤ x ∧ ulen x = m + ulen y ∧ vn = .int .i64 ((m + 1 : Nat) : Int)) (fun vx _ => (intOf vx).toNat)
  case atStart => exact ⟨x, 0, rfl, Nat.le_refl _, by omega, rfl⟩
  case round =>
    obtain ⟨y, m, rfl, hy, hsplit, rfl⟩ := hrel
    have hyp := ulen_pos y
    by_cases h128 : 128 ≤ y
    · go_wp2
      go_round
      case rel => exact ⟨y / 128, m + 1, by go_num, by omega, by rw [hsplit, ulen_big h128]; omega, by go_num⟩
      case measure => simp [intOf]; omega
    · have hsm : ulen y = 1 := ulen_small (by omega)
      go_wp2
      go_ret
      exact ⟨rfl, rfl⟩

theorem carries22 (k : Int) (w : World) : Calls Try.prog 22 #[.int .u8 k] w fun e w' => e = .returned (.bool (k == 0 || k == 1)) ∧ w' = w := by
  by_cases h0 : k = 0
  · subst h0
    go_enter Try.func22, Try.ntmps22
    go_wp2
    go_ret
    exact ⟨rfl, rfl⟩
  · have h0' : (k == 0) = false := by rw [beq_eq_false_iff_ne]; exact h0
    go_enter Try.func22, Try.ntmps22
    go_wp2
    go_ret
    exact ⟨by simp [h0'], rfl⟩

/-- an owner as an unsigned number -/
def uo (owner : Int) : Nat := (IntKind.u64.wrap owner).toNat
theorem wrap64 (n : Int) : IntKind.u64.wrap n = n % 18446744073709551616 := by simp [IntKind.wrap, IntKind.bits, IntKind.signed]
theorem uo_lt (owner : Int) : uo owner < 18446744073709551616 := by unfold uo; rw [wrap64]; omega
theorem uo_eq (owner : Int) : IntKind.u64.wrap owner = (uo owner : Int) := by unfold uo; rw [wrap64]; omega

/-- a frame's size -/
def fsz (kind owner : Int) (name val : Nat) : Nat := 1 + ulen (uo owner) + ulen name + name + (if kind = 0 ∨ kind = 1 then ulen val + val else 0)

set_option maxRecDepth 100000 in
set_option maxHeartbeats 4000000 in
theorem size5 (kind owner : Int) (s : ByteArray) (val : Nat) (w : World) (hk : 0 ≤ kind) (hs : s.size ≤ 1048576) (hv : val ≤ 1048576) :
    Calls Try.prog 5 #[.int .u8 kind, .int .i64 owner, .string s, .int .i64 (val : Int)] w fun e w' => e = .returned (.int .i64 (fsz kind owner s.size val : Int)) ∧ w' = w := by
  have H1 := hide (len16 (uo owner) (uo_lt owner) w)
  have H2 := hide (len16 s.size (by omega) w)
  have H3 := hide (len16 val (by omega) w)
  have l1 := ulen_le (uo_lt owner)
  have l2 := ulen_le (x := s.size) (by omega)
  have l3 := ulen_le (x := val) (by omega)
  have e1 := uo_eq owner
  obtain ⟨a1, ha1⟩ : ∃ a, ulen (uo owner) = a := ⟨_, rfl⟩
  obtain ⟨a2, ha2⟩ : ∃ a, ulen s.size = a := ⟨_, rfl⟩
  obtain ⟨a3, ha3⟩ : ∃ a, ulen val = a := ⟨_, rfl⟩
  obtain ⟨f, hf⟩ : ∃ f, fsz kind owner s.size val = f := ⟨_, rfl⟩
  rw [hf]
  unfold fsz at hf
  rw [ha1, ha2, ha3] at hf
  rw [ha1] at l1 H1
  rw [ha2] at l2 H2
  rw [ha3] at l3 H3
  clear ha1 ha2 ha3
  by_cases h01 : kind ≤ 1
  · rw [if_pos (by omega)] at hf
    go_enter Try.func5, Try.ntmps5
    go_wp2_with fail
    refine H1.out.mono ?_
    rintro e w' ⟨rfl, rfl⟩
    go_wp2_with fail
    refine H2.out.mono ?_
    rintro e w' ⟨rfl, rfl⟩
    go_wp2_with fail
    refine H3.out.mono ?_
    rintro e w' ⟨rfl, rfl⟩
    go_wp2_with fail
    go_ret
    refine ⟨?_, rfl⟩
    congr 2
    simp
    omega
  · rw [if_neg (by omega)] at hf
    go_enter Try.func5, Try.ntmps5
    go_wp2_with fail
    refine H1.out.mono ?_
    rintro e w' ⟨rfl, rfl⟩
    go_wp2_with fail
    refine H2.out.mono ?_
    rintro e w' ⟨rfl, rfl⟩
    go_wp2_with fail
    go_ret
    refine ⟨?_, rfl⟩
    congr 2
    simp
    omega

theorem Gr.box {w w' : World} {v v' : Value} (h : Gr w w' v v') {b : Nat} {o : Obj} (hb : w.heap[b]? = some o) (hne : v.ownBlock ≠ some b) : w'.heap[b]? = some o ∧ v'.ownBlock ≠ some b := by
  have hlt : b < w.heap.size := (Array.getElem?_eq_some_iff.1 hb).1
  refine ⟨(h.kept hlt hne).trans hb, fun e => ?_⟩
  rcases h.loc b e with h1 | h1
  · exact hne h1
  · omega

theorem cells4 {w : World} {b : Nat} {a0 a1 a2 a3 : Value} {t : TypeId} (h : w.heap[b]? = some (.cells #[a0, a1, a2, a3] t (0, 0))) :
    w.cell? ⟨b, 0, none⟩ = some a0 ∧ w.cell? ⟨b, 1, none⟩ = some a1 ∧ w.cell? ⟨b, 2, none⟩ = some a2 ∧ w.cell? ⟨b, 3, none⟩ = some a3 := by
  simp [World.cell?, h]

/-- a frame's cells -/
def frm (kind owner : Int) (s : ByteArray) (val : Value) : Value := .agg #[.int .i64 owner, .string s, .int .u8 kind, val]

set_option maxRecDepth 100000 in
set_option maxHeartbeats 4000000 in
theorem head28 (B n : Nat) (v : Value) (kind owner : Int) (s : ByteArray) (va : Option Addr) (vl vc : Nat) (w : World) (hbuf : Buf B w v n) (hB : B ≤ w.heap.size) (hn : n ≤ 1000000) (hk : 0 ≤ kind) (hs : s.size ≤ 1048576) (hv : vl ≤ 1048576) :
    Calls Try.prog 28 #[v, frm kind owner s (.slice va vl vc)] w fun e w' => ∃ v', e = .returned v' ∧ Buf B w' v' (n + (1 + ulen (uo owner) + ulen s.size + s.size + (if kind = 0 ∨ kind = 1 then ulen vl else 0))) ∧ Gr w w' v v' := by
  unfold frm
  have l1 := ulen_le (uo_lt owner)
  have l2 := ulen_le (x := s.size) (by omega)
  obtain ⟨q1, hq1⟩ : ∃ q, ulen (uo owner) = q := ⟨_, rfl⟩
  obtain ⟨q2, hq2⟩ : ∃ q, ulen s.size = q := ⟨_, rfl⟩
  obtain ⟨q3, hq3⟩ : ∃ q, (if kind = 0 ∨ kind = 1 then ulen vl else 0) = q := ⟨_, rfl⟩
  rw [hq1] at l1
  rw [hq2] at l2
  rw [hq1, hq2, hq3]
  replace hq1 := hide hq1
  replace hq2 := hide hq2
  replace hq3 := hide hq3
  obtain ⟨g, cap, rfl⟩ := hbuf.shape
  have HBUF := hide hbuf
  clear hbuf
  go_enter Try.func28, Try.ntmps28
  go_wp2_with (at_builtin; refine wpList_buf_byte rfl (.tmp 5) (.tmp 9) rfl B n _ rfl ((HBUF.out.alloc _).alloc _) ⟨w.heap.size + 1, 0, none⟩ rfl kind ?c1 ?c2 ?c3 ?_)
  case c1 => simp
  case c2 => simp; omega
  case c3 => omega
  intro v1 w1 hb1 hg1
  have hG1 := Gr.after _ hg1
  have hne : (Value.slice (some ⟨g, 0, none⟩) n cap).ownBlock ≠ some w.heap.size := by
    intro e
    have := (HBUF.out.lt _ e).2
    omega
  obtain ⟨x1, y1⟩ := hG1.box (b := w.heap.size) (o := .cells #[.int .i64 owner, .string s, .int .u8 kind, .slice va vl vc] 55 (0, 0)) Array.getElem?_push_size hne
  have hB1 : B ≤ w1.heap.size := by have := hG1.grown.size; simp at this; omega
  obtain ⟨g1, cap1, rfl⟩ := hb1.shape
  obtain ⟨p0, p1, p2, p3⟩ := cells4 x1
  have e1 := uo_eq owner
  have HU1 := hide (uv29 B (n + 1) (uo owner) (uo_lt owner) _ w1 hb1 hB1 (by omega))
  have HG1 := hide hG1
  have HX1 := hide (And.intro x1 y1)
  have HB1 := hide hb1
  clear hG1 x1 y1 hb1 hg1 hne
  go_wp2_with fail
  refine HU1.out.mono ?_
  rintro e w2 ⟨v2, rfl, hb2, hg2⟩
  obtain ⟨x2, y2⟩ := hg2.box HX1.out.1 HX1.out.2
  have hB2 : B ≤ w2.heap.size := by have := hg2.grown.size; omega
  rw [hq1.out] at hb2
  obtain ⟨g2, cap2, rfl⟩ := hb2.shape
  clear p0 p1 p2 p3
  obtain ⟨p0, p1, p2, p3⟩ := cells4 x2
  have HU2 := hide (uv29 B (n + 1 + q1) s.size (by omega) _ w2 hb2 hB2 (by omega))
  have HG2 := hide (HG1.out.trans hg2)
  have HX2 := hide (And.intro x2 y2)
  clear x2 y2 hb2 hg2
  go_wp2_with fail
  refine HU2.out.mono ?_
  rintro e w3 ⟨v3, rfl, hb3, hg3⟩
  obtain ⟨x3, y3⟩ := hg3.box HX2.out.1 HX2.out.2
  have hB3 : B ≤ w3.heap.size := by have := hg3.grown.size; omega
  rw [hq2.out] at hb3
  obtain ⟨g3, cap3, rfl⟩ := hb3.shape
  clear p0 p1 p2 p3
  obtain ⟨p0, p1, p2, p3⟩ := cells4 x3
  have HG3 := hide (HG2.out.trans hg3)
  have HX3 := hide (And.intro x3 y3)
  have HB3 := hide hb3
  clear x3 y3 hb3 hg3
  go_wp2_with (at_builtin; refine wpList_buf_str rfl (.tmp 24) (.tmp 27) rfl B (n + 1 + q1 + q2) _ rfl HB3.out s rfl hB3 ?c3 ?_)
  case c3 => omega
  intro v4 w4 hb4 hg4
  obtain ⟨x4, y4⟩ := hg4.box HX3.out.1 HX3.out.2
  have hB4 : B ≤ w4.heap.size := by have := hg4.grown.size; omega
  obtain ⟨g4, cap4, rfl⟩ := hb4.shape
  clear p0 p1 p2 p3
  obtain ⟨p0, p1, p2, p3⟩ := cells4 x4
  have HC := hide (carries22 kind w4)
  have HG4 := hide (HG3.out.trans hg4)
  have HB4 := hide hb4
  have HU4 := hide (uv29 B (n + 1 + q1 + q2 + s.size) vl (by omega) _ w4 hb4 hB4 (by omega))
  have HX4 := hide (And.intro x4 y4)
  clear x4 y4 hb4 hg4
  go_wp2_with fail
  refine HC.out.mono ?_
  rintro e w4 ⟨rfl, rfl⟩
  by_cases h01 : kind = 0 ∨ kind = 1
  · have hc : (kind == 0 || kind == 1) = true := by rcases h01 with rfl | rfl <;> rfl
    have hq := hq3.out
    rw [if_pos h01] at hq
    rw [hc]
    replace hq := hide hq
    go_wp2_with fail
    refine HU4.out.mono ?_
    rintro e w5 ⟨v5, rfl, hb5, hg5⟩
    obtain ⟨g5, cap5, rfl⟩ := hb5.shape
    have HB5 := hide hb5
    have HG5 := hide (HG4.out.trans hg5)
    clear hb5 hg5
    go_wp2_with fail
    go_ret
    refine ⟨_, rfl, ?_, Gr.after _ HG5.out⟩
    have e : n + (1 + q1 + q2 + s.size + q3) = n + 1 + q1 + q2 + s.size + ulen vl := by have := hq.out; omega
    rw [e]
    exact HB5.out
  · have hc : (kind == 0 || kind == 1) = false := by
      simp only [Bool.or_eq_false_iff, beq_eq_false_iff_ne]
      omega
    have hq := hq3.out
    rw [if_neg h01] at hq
    rw [hc]
    replace hq := hide hq
    go_wp2_with fail
    go_ret
    refine ⟨_, rfl, ?_, Gr.after _ HG4.out⟩
    have e : n + (1 + q1 + q2 + s.size + q3) = n + 1 + q1 + q2 + s.size := by have := hq.out; omega
    rw [e]
    exact HB4.out

end Go.Proofs.Qxb6609323a
