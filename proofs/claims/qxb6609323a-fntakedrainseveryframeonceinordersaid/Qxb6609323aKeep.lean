import Derived.Test.Qxb6609323aPut
namespace Go.Proofs.Qxb6609323a
open Go.RowKit Go.Maps Go.WideElems
open Go.ChangeMaps (setBlock modify_eq_set)
set_option linter.unusedVariables false

/-- of the old blocks none but those of X has turned -/
structure Keep (X : Nat → Prop) (w w' : World) : Prop where
  os : w'.os = w.os
  tape : w'.tape = w.tape
  output : w'.output = w.output
  size : w.heap.size ≤ w'.heap.size
  block : ∀ k, k < w.heap.size → ¬ X k → w'.heap[k]? = w.heap[k]?

theorem Keep.refl (X : Nat → Prop) (w : World) : Keep X w w := ⟨rfl, rfl, rfl, Nat.le_refl _, fun _ _ _ => rfl⟩
theorem Keep.trans {X Y : Nat → Prop} {a b c : World} (h : Keep X a b) (k : Keep Y b c) (hY : ∀ j, j < a.heap.size → Y j → X j) : Keep X a c :=
  ⟨k.os.trans h.os, k.tape.trans h.tape, k.output.trans h.output, Nat.le_trans h.size k.size, fun i hi hx => (k.block i (Nat.lt_of_lt_of_le hi h.size) (fun y => hx (hY i hi y))).trans (h.block i hi hx)⟩
theorem Keep.of_below {X : Nat → Prop} {w w' : World} (h : Below w.heap.size w w') : Keep X w w' := ⟨h.os, h.tape, h.output, h.size, fun k hk _ => h.block k hk⟩
theorem Keep.drew {X : Nat → Prop} {a w : World} (h : Keep X a w) : Keep X a w.drew := ⟨h.os, h.tape, h.output, h.size, h.block⟩
theorem Keep.alloc {X : Nat → Prop} {a w : World} (h : Keep X a w) (o : Obj) : Keep X a (w.alloc o) :=
  h.trans (Y := X) (Keep.of_below ((Below.refl _ _).alloc (Nat.le_refl _) o)) (fun _ _ x => x)
theorem Keep.setCell {X : Nat → Prop} {a w : World} (h : Keep X a w) {p : Addr} (hp : X p.block ∨ a.heap.size ≤ p.block) (u : Value) : Keep X a (w.setCell p u) := by
  have hb := (Below.refl 0 w).setCell (p := p) (Nat.zero_le _) u
  refine ⟨hb.os.trans h.os, hb.tape.trans h.tape, hb.output.trans h.output, Nat.le_trans h.size hb.size, fun k hk hx => ?_⟩
  refine (Below.heap_setCell w p u k ?_).trans (h.block k hk hx)
  rintro rfl
  rcases hp with h1 | h1
  · exact hx h1
  · omega
theorem Keep.below {X : Nat → Prop} {w w' : World} {B : Nat} (h : Keep X w w') (hB : B ≤ w.heap.size) (hX : ∀ k, X k → B ≤ k) : Below B w w' :=
  ⟨h.os, h.tape, h.output, h.size, fun k hk => h.block k (by omega) (fun x => by have := hX k x; omega)⟩
theorem Keep.mono {X Y : Nat → Prop} {w w' : World} (h : Keep X w w') (hXY : ∀ k, k < w.heap.size → X k → Y k) : Keep Y w w' := ⟨h.os, h.tape, h.output, h.size, fun k hk hy => h.block k hk (fun x => hy (hXY k hk x))⟩

section
variable {w w' : World} {base p clk : Nat} {vw : Value} {F : List Fr} {m : Option Nat} {L : List En} {z : Int}

theorem Bt.p_ne_m (h : Bt w base p vw F m L clk z) : m ≠ some p := by
  intro e
  have h1 := (h.mso p e).2.blk
  rw [h.st] at h1
  cases h1

theorem own_row {w : World} {base n e sz : Nat} {v : Value} {xs : List Value} (h : w.ownsRow base e sz v n xs) {g : Nat} (hv : v.ownBlock = some g) : ∃ cur, w.heap[g]? = some (.cells cur e (0, 0)) := by
  rcases h.2 with ⟨h0, _⟩ | ⟨g', cap, cur, rfl, h1, h2, h3⟩
  · rw [h0] at hv; cases hv
  · cases hv
    exact ⟨cur, h2⟩

theorem Bt.p_ne_w (h : Bt w base p vw F m L clk z) : vw.ownBlock ≠ some p := by
  intro e
  obtain ⟨cur, h1⟩ := own_row h.row e
  rw [h.st] at h1
  cases h1

theorem Bt.w_ne_m (h : Bt w base p vw F m L clk z) {b : Nat} (hb : m = some b) : vw.ownBlock ≠ some b := by
  intro e
  obtain ⟨cur, h1⟩ := own_row h.row e
  rw [(h.mso b hb).2.blk] at h1
  cases h1

theorem Bt.keep {X : Nat → Prop} (h : Bt w base p vw F m L clk z) (hk : Keep X w w') (hX : ∀ k, Bo p vw m k → ¬ X k) : Bt w' base p vw F m L clk z :=
  h.same (fun k hb => hk.block k (h.lt k hb).2 (hX k hb))

theorem Bt.c0 (h : Bt w base p vw F m L clk z) : w.cell? ⟨p, 0, none⟩ = some vw := by simp [World.cell?, h.st]
theorem Bt.c1 (h : Bt w base p vw F m L clk z) : w.cell? ⟨p, 1, none⟩ = some (.map m) := by simp [World.cell?, h.st]
theorem Bt.c2 (h : Bt w base p vw F m L clk z) : w.cell? ⟨p, 2, none⟩ = some (.int .i64 z) := by simp [World.cell?, h.st]

theorem Bt.fz (h : Bt w base p vw F m L clk z) (i : Nat) : w.frozen? ⟨p, i, none⟩ = false := by simp [World.frozen?, h.st]
theorem box3 {w : World} {b : Nat} {a0 a1 a2 : Value} {t : TypeId} (h : w.heap[b]? = some (.cells #[a0, a1, a2] t (0, 0))) :
    w.cell? ⟨b, 0, none⟩ = some a0 ∧ w.cell? ⟨b, 1, none⟩ = some a1 ∧ w.cell? ⟨b, 2, none⟩ = some a2 := by
  simp [World.cell?, h]

theorem Bt.setSize (h : Bt w base p vw F m L clk z) (z' : Int) : Bt (w.setCell ⟨p, 2, none⟩ (.int .i64 z')) base p vw F m L clk z' := by
  have hs := heap_setCell_same w p 2 _ _ (.int .i64 z') h.st
  refine ⟨hs, h.ge, own4_of_block h.row (fun g e => Below.heap_setCell w _ _ g (fun e' => h.p_ne_w (e.trans (congrArg some e')))), h.mno, fun b e => ⟨(h.mso b e).1, (h.mso b e).2.same (Below.heap_setCell w _ _ b (fun e' => h.p_ne_m (e.trans (congrArg some e'))))⟩⟩

theorem Bt.setMap (h : Bt w base p vw F m L clk z) {b clk' : Nat} {L' : List En} (hb : base ≤ b) (hM : Mp w b L' clk') : Bt (w.setCell ⟨p, 1, none⟩ (.map (some b))) base p vw F (some b) L' clk' z := by
  have hs := heap_setCell_same w p 1 _ _ (.map (some b)) h.st
  refine ⟨hs, h.ge, own4_of_block h.row (fun g e => Below.heap_setCell w _ _ g (fun e' => h.p_ne_w (e.trans (congrArg some e')))), (fun e => by cases e), fun b' e => ?_⟩
  cases e
  refine ⟨hb, hM.same (Below.heap_setCell w _ _ b (fun e' => ?_))⟩
  have h1 := hM.blk
  have e2 : b = p := e'
  rw [e2, h.st] at h1
  cases h1

theorem Bt.setRow (h : Bt w base p vw F m L clk z) {vw' : Value} {F' : List Fr} (hr : w.ownsRow base 55 4 vw' F'.length (cellsOf F')) : Bt (w.setCell ⟨p, 0, none⟩ vw') base p vw' F' m L clk z := by
  have hs := heap_setCell_same w p 0 _ _ vw' h.st
  refine ⟨hs, h.ge, own4_of_block hr (fun g e => Below.heap_setCell w _ _ g (fun e' => ?_)), h.mno, fun b e => ⟨(h.mso b e).1, (h.mso b e).2.same (Below.heap_setCell w _ _ b (fun e' => h.p_ne_m (e.trans (congrArg some e'))))⟩⟩
  obtain ⟨cur, h1⟩ := own_row hr e
  have e2 : g = p := e'
  rw [e2, h.st] at h1
  cases h1

/-- the map of the batch turned by other operations -/
theorem Bt.setMp {b clk' : Nat} {L' : List En} (h : Bt w base p vw F (some b) L clk z) (hM : Mp w' b L' clk') (ho : ∀ j, j ≠ b → w'.heap[j]? = w.heap[j]?) : Bt w' base p vw F (some b) L' clk' z := by
  refine ⟨(ho p (fun e => h.p_ne_m (e ▸ rfl))).trans h.st, h.ge, own4_of_block h.row (fun g e => ho g (fun e' => h.w_ne_m rfl (e' ▸ e))), (fun e => by cases e), fun b' e => ?_⟩
  cases e
  exact ⟨(h.mso b rfl).1, hM⟩
end

end Go.Proofs.Qxb6609323a
