import Derived.Test.Qxb6609323aDrop
namespace Go.Proofs.Qxb6609323a
open Go.RowKit Go.Maps Go.WideElems
open Go.ChangeMaps (setBlock modify_eq_set)
set_option linter.unusedVariables false

/-- a WRITE in a batch: its value is a slice -/
structure Fr where
  k : Int
  o : Int
  s : ByteArray
  v : Value

def Fr.cells (f : Fr) : List Value := [.int .i64 f.o, .string f.s, .int .u8 f.k, f.v]
def cellsOf (F : List Fr) : List Value := F.flatMap Fr.cells

theorem cellsOf_len : ∀ F : List Fr, (cellsOf F).length = F.length * 4
  | [] => rfl
  | f :: r => by
    show (Fr.cells f ++ cellsOf r).length = _
    rw [List.length_append, cellsOf_len r, List.length_cons]
    show 4 + _ = _
    omega

theorem cellsOf_append (F G : List Fr) : cellsOf (F ++ G) = cellsOf F ++ cellsOf G := by unfold cellsOf; rw [List.flatMap_append]

/-- the batch at block p -/
structure Bt (w : World) (base p : Nat) (vw : Value) (F : List Fr) (m : Option Nat) (L : List En) (clk : Nat) (z : Int) : Prop where
  st : w.heap[p]? = some (.cells #[vw, .map m, .int .i64 z] 47 (0, 0))
  ge : base ≤ p
  row : w.ownsRow base 55 4 vw F.length (cellsOf F)
  mno : m = none → L = []
  mso : ∀ b, m = some b → base ≤ b ∧ Mp w b L clk

/-- the batch's blocks -/
def Bo (p : Nat) (vw : Value) (m : Option Nat) (k : Nat) : Prop := k = p ∨ vw.ownBlock = some k ∨ m = some k

theorem Mp.same {w w' : World} {b clk : Nat} {L : List En} (h : Mp w b L clk) (hb : w'.heap[b]? = w.heap[b]?) : Mp w' b L clk := ⟨hb.trans h.blk, h.ok, h.dk, h.born, h.db⟩

theorem own4_of_block {w w' : World} {base n : Nat} {e : TypeId} {sz : Nat} {v : Value} {xs : List Value} (h : w.ownsRow base e sz v n xs) (hk : ∀ g, v.ownBlock = some g → w'.heap[g]? = w.heap[g]?) : w'.ownsRow base e sz v n xs := by
  refine ⟨h.1, ?_⟩
  rcases h.2 with h0 | ⟨g, cap, cur, rfl, h1, h2, h3⟩
  · exact .inl h0
  · exact .inr ⟨g, cap, cur, rfl, h1, (hk g rfl).trans h2, h3⟩

theorem Bt.same {w w' : World} {base p clk : Nat} {vw : Value} {F : List Fr} {m : Option Nat} {L : List En} {z : Int} (h : Bt w base p vw F m L clk z) (hk : ∀ k, Bo p vw m k → w'.heap[k]? = w.heap[k]?) : Bt w' base p vw F m L clk z :=
  ⟨(hk p (.inl rfl)).trans h.st, h.ge, own4_of_block h.row (fun g e => hk g (.inr (.inl e))), h.mno, fun b e => ⟨(h.mso b e).1, (h.mso b e).2.same (hk b (.inr (.inr e)))⟩⟩

theorem heap_lt {w : World} {b : Nat} {o : Obj} (h : w.heap[b]? = some o) : b < w.heap.size := (Array.getElem?_eq_some_iff.1 h).1

theorem Bt.lt {w : World} {base p clk : Nat} {vw : Value} {F : List Fr} {m : Option Nat} {L : List En} {z : Int} (h : Bt w base p vw F m L clk z) : ∀ k, Bo p vw m k → base ≤ k ∧ k < w.heap.size := by
  rintro k (rfl | e | e)
  · exact ⟨h.ge, heap_lt h.st⟩
  · exact h.row.lt k e
  · exact ⟨(h.mso k e).1, heap_lt (h.mso k e).2.blk⟩

theorem Bt.later {w w' : World} {base p clk : Nat} {vw : Value} {F : List Fr} {m : Option Nat} {L : List En} {z : Int} (h : Bt w base p vw F m L clk z) (hb : Below w.heap.size w w') : Bt w' base p vw F m L clk z := h.same (fun k hk => hb.block k (h.lt k hk).2)

end Go.Proofs.Qxb6609323a
