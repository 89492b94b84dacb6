import Derived.Test.Qxb6612279aShelf
import Derived.Test.Qxb6612279aLeaf
import Derived.Deep.RegionWith
import Derived.Shelf.Bytes.TryGrow
import Derived.Shelf.Bytes.GrowSlice
import Derived.Lib.SliceRun
namespace Go.Proofs.Qxb6612279a
open Go.RowKit
set_option linter.unusedVariables false

/-- block b is a bytes.Buffer that has only been written: its 'buf' is v -/
def Sk (w : World) (b : Nat) (v : Value) : Prop := ∃ lr, w.heap[b]? = some (.cells #[v, .int .i64 0, .int .i8 lr] 57 (0, 0))

/-- block g is a row of bytes, cap of them, that begins with bs -/
def Rw (w : World) (g cap : Nat) (bs : List Value) : Prop :=
  ∃ cur : Array Value, w.heap[g]? = some (.cells cur 5 (0, 0)) ∧ cur.size = cap ∧ bs.length ≤ cap ∧ cur.toList.take bs.length = bs

theorem heap_lt {w : World} {b : Nat} {o : Obj} (h : w.heap[b]? = some o) : b < w.heap.size := by
  rcases Nat.lt_or_ge b w.heap.size with h' | h'
  · exact h'
  · simp [Array.getElem?_eq_none h'] at h

theorem Sk.lt {w : World} {b : Nat} {v : Value} (h : Sk w b v) : b < w.heap.size := heap_lt h.choose_spec
theorem Sk.c0 {w : World} {b : Nat} {v : Value} (h : Sk w b v) : w.cell? ⟨b, 0, none⟩ = some v := by obtain ⟨lr, h⟩ := h; simp [World.cell?, h]
theorem Sk.c1 {w : World} {b : Nat} {v : Value} (h : Sk w b v) : w.cell? ⟨b, 1, none⟩ = some (.int .i64 0) := by obtain ⟨lr, h⟩ := h; simp [World.cell?, h]
theorem Sk.fz {w : World} {b : Nat} {v : Value} (h : Sk w b v) (i : Nat) : w.frozen? ⟨b, i, none⟩ = false := by obtain ⟨lr, h⟩ := h; simp [World.frozen?, h]

theorem Sk.set0 {w : World} {b : Nat} {v : Value} (h : Sk w b v) (u : Value) : Sk (w.setCell ⟨b, 0, none⟩ u) b u := by
  obtain ⟨lr, h⟩ := h
  exact ⟨lr, by rw [heap_setCell_same w b 0 _ _ u h]; rfl⟩
theorem Sk.set1 {w : World} {b : Nat} {v : Value} (h : Sk w b v) : Sk (w.setCell ⟨b, 1, none⟩ (.int .i64 0)) b v := by
  obtain ⟨lr, h⟩ := h
  exact ⟨lr, by rw [heap_setCell_same w b 1 _ _ _ h]; rfl⟩
theorem Sk.set2 {w : World} {b : Nat} {v : Value} (h : Sk w b v) (k : Int) : Sk (w.setCell ⟨b, 2, none⟩ (.int .i8 k)) b v := by
  obtain ⟨lr, h⟩ := h
  exact ⟨k, by rw [heap_setCell_same w b 2 _ _ _ h]; rfl⟩
theorem Sk.of_block {w w' : World} {b : Nat} {v : Value} (h : Sk w b v) (e : w'.heap[b]? = w.heap[b]?) : Sk w' b v := by
  obtain ⟨lr, h⟩ := h
  exact ⟨lr, e.trans h⟩
theorem Rw.of_block {w w' : World} {g cap : Nat} {bs : List Value} (h : Rw w g cap bs) (e : w'.heap[g]? = w.heap[g]?) : Rw w' g cap bs := by
  obtain ⟨cur, h, r⟩ := h
  exact ⟨cur, e.trans h, r⟩
theorem Rw.lt {w : World} {g cap : Nat} {bs : List Value} (h : Rw w g cap bs) : g < w.heap.size := heap_lt h.choose_spec.1

theorem growSlice_row (g l c n : Nat) (cur : Array Value) (w : World) (hg : w.heap[g]? = some (.cells cur 5 (0, 0))) (hcs : cur.size = c) (hlc : l ≤ c) (hn : 1 ≤ n)
    (hlim : l + n ≤ 140737488355328) (hc2 : c ≤ 140737488355328) (h1 : ∀ v ∈ cur.toList.take l, v.oneCell' = true) :
    Calls Try.prog 63 #[.slice (some ⟨g, 0, none⟩) l c, .int .i64 n] w fun e w' => ∃ cap2 cells, e = .returned (.slice (some ⟨w.heap.size, 0, none⟩) l cap2) ∧ w'.heap[w.heap.size]? = some (.cells cells 5 (0, 0)) ∧
      cells.size = cap2 ∧ cells.toList.take l = cur.toList.take l ∧ l + n ≤ cap2 ∧ cap2 ≤ maxLen ∧ Below w.heap.size w w' :=
  Any.bytes_growSlice_row { Try.laysM252 with } g l c n cur w hg hcs hlc hn hlim hc2 h1

theorem growSlice_nil (n : Nat) (w : World) (hn : 1 ≤ n) (hlim : n ≤ 140737488355328) :
    Calls Try.prog 63 #[.slice none 0 0, .int .i64 n] w fun e w' => ∃ cap2 cells, e = .returned (.slice (some ⟨w.heap.size, 0, none⟩) 0 cap2) ∧ w'.heap[w.heap.size]? = some (.cells cells 5 (0, 0)) ∧
      cells.size = cap2 ∧ n ≤ cap2 ∧ cap2 ≤ maxLen ∧ Below w.heap.size w w' :=
  Any.bytes_growSlice_nil { Try.laysM252 with } n w hn hlim

theorem tryGrow_room (b : Nat) (ao : Option Addr) (l cap n : Nat) (w : World) (h : Sk w b (.slice ao l cap)) (hlc : l ≤ cap) (hcap : cap ≤ maxLen) (hn : n ≤ cap - l) :
    Calls Try.prog 60 #[.pointer (some ⟨b, 0, none⟩), .int .i64 n] w fun e w' => e = .returned (.tuple #[.int .i64 l, .bool true]) ∧ w' = w.setCell ⟨b, 0, none⟩ (.slice ao (l + n) cap) :=
  Any.Buffer_tryGrow_room Try.laysM251 b ao l cap n w h.c0 (h.fz 0) hlc hcap hn

theorem tryGrow_none (b : Nat) (ao : Option Addr) (l cap n : Nat) (w : World) (h : Sk w b (.slice ao l cap)) (hlc : l ≤ cap) (hcap : cap ≤ maxLen) (hn : cap - l < n) :
    Calls Try.prog 60 #[.pointer (some ⟨b, 0, none⟩), .int .i64 n] w fun e w' => e = .returned (.tuple #[.int .i64 0, .bool false]) ∧ w' = w :=
  Any.Buffer_tryGrow_none Try.laysM251 b ao l cap n w h.c0 hlc hcap hn

set_option maxHeartbeats 400000 in
theorem len62 (b : Nat) (ao : Option Addr) (l cap : Nat) (w : World) (h : Sk w b (.slice ao l cap)) (hl : l ≤ 9223372036854775807) :
    Calls Try.prog 62 #[.pointer (some ⟨b, 0, none⟩)] w fun e w' => e = .returned (.int .i64 l) ∧ ∃ n, w' = w.drewN n := by
  have c0 := h.c0
  have c1 := h.c1
  clear h
  go_enter Try.func62, Try.ntmps62
  go_wp2
  go_quiet (fail)
  go_wp2
  go_ret
  exact ⟨by simp, _, rfl⟩

theorem grownBy_set {w w2 : World} {b : Nat} (h : w.grownBy w2 (some b)) (i : Nat) (v : Value) : w.grownBy (w2.setCell ⟨b, i, none⟩ v) (some b) :=
  ⟨h.os, h.tape, h.output, by simpa [World.setCell] using h.size, fun k hk hne => (heap_setCell_other w2 ⟨b, i, none⟩ k v (fun e => hne (by simp [e]))).trans (h.block k hk hne)⟩

/-- what grow leaves behind growSlice -/
theorem grow_fin {w w1 w2 : World} {k b l n cap2 : Nat} {bs : List Value} {v : Value} {cells : Array Value} (hW : w1 = w.drewN k) (hS : Sk w2 b v) (hN : w2.heap[w1.drew.heap.size]? = some (.cells cells 5 (0, 0)))
    (hcsz : cells.size = cap2) (htk : cells.toList.take l = bs) (hl : l ≤ cap2) (hbel : Below w1.drew.heap.size w1.drew w2) :
    w.heap.size ≤ w1.heap.size ∧ Sk (((w2.setCell ⟨b, 0, none⟩ (.slice (some ⟨w1.heap.size, 0, none⟩) l cap2)).setCell ⟨b, 1, none⟩ (.int .i64 0)).setCell ⟨b, 0, none⟩ (.slice (some ⟨w1.heap.size, 0, none⟩) (l + n) cap2)) b (.slice (some ⟨w1.heap.size, 0, none⟩) (l + n) cap2) ∧
    Rw (((w2.setCell ⟨b, 0, none⟩ (.slice (some ⟨w1.heap.size, 0, none⟩) l cap2)).setCell ⟨b, 1, none⟩ (.int .i64 0)).setCell ⟨b, 0, none⟩ (.slice (some ⟨w1.heap.size, 0, none⟩) (l + n) cap2)) w1.heap.size cap2 bs ∧
    w.grownBy (((w2.setCell ⟨b, 0, none⟩ (.slice (some ⟨w1.heap.size, 0, none⟩) l cap2)).setCell ⟨b, 1, none⟩ (.int .i64 0)).setCell ⟨b, 0, none⟩ (.slice (some ⟨w1.heap.size, 0, none⟩) (l + n) cap2)) (some b) := by
  have hsz : w1.heap.size = w.heap.size := by rw [hW]; rfl
  have hblk : ∀ i : Nat, w1.drew.heap[i]? = w.heap[i]? := fun i => by rw [hW]; rfl
  have hgr : w.grownBy w2 (some b) := by
    refine ⟨?_, ?_, ?_, ?_, fun i hi _ => ?_⟩
    · rw [hbel.os, hW]; rfl
    · rw [hbel.tape, hW]; rfl
    · rw [hbel.output, hW]; rfl
    · have := hbel.size; show w.heap.size ≤ _; rw [← hsz]; exact this
    · rw [hbel.block i (by show i < w1.heap.size; omega), hblk]
  have hbN : b ≠ w1.heap.size := by
    intro e
    obtain ⟨lr, hS⟩ := hS
    have hN' : w2.heap[b]? = some (.cells cells 5 (0, 0)) := by rw [e]; exact hN
    rw [hN'] at hS
    simp at hS
  have hlen : bs.length = l := by rw [← htk]; simp; omega
  refine ⟨by omega, ((hS.set0 _).set1).set0 _, ⟨cells, ?_, hcsz, by omega, by rw [hlen]; exact htk⟩, grownBy_set (grownBy_set (grownBy_set hgr 0 _) 1 _) 0 _⟩
  rw [heap_setCell_other _ _ _ _ (by exact fun e => hbN e.symm), heap_setCell_other _ _ _ _ (by exact fun e => hbN e.symm), heap_setCell_other _ _ _ _ (by exact fun e => hbN e.symm)]
  exact hN

end Go.Proofs.Qxb6612279a
