/-
  The shelf's contracts for (*bytes.Buffer).tryGrowByReslice, grow and Bytes laid at this dump, in plain words (written by the kit's lay-shelf.mjs and lay-plain.mjs for this program).
-/
import Derived.Shelf.LaysM
import Derived.Shelf.Bytes.Bytes
import Derived.Shelf.Bytes.GrowOwn
import Derived.Test.Qxb6612279aProg
namespace Go.Proofs
open Go.Shelf
def Try.laysM251_ren : Go.Shelf.Ren := ⟨fun | 251 => 60 | n => n, fun | 130 => 29 | 3 => 3 | 4 => 4 | 0 => 0 | 93 => 57 | 37 => 22 | 91 => 55 | 5 => 5 | n => n, fun | n => n⟩
theorem Try.laysM251 : Go.Proofs.LaysM.n251 Try.prog Try.laysM251_ren := {
  mixed := by kernel_rfl
  f251 := Try.func60.trans (congrArg some (by kernel_rfl))
  t0 := Try.underlying0
  a0 := Try.isAgg0
  z0 := Try.sizeOf0
  v0 := Try.zeroValue0
  t3 := Try.underlying3
  a3 := Try.isAgg3
  z3 := Try.sizeOf3
  v3 := Try.zeroValue3
  t4 := Try.underlying4
  a4 := Try.isAgg4
  z4 := Try.sizeOf4
  v4 := Try.zeroValue4
  t37 := Try.underlying22
  a37 := Try.isAgg22
  z37 := Try.sizeOf22
  v37 := Try.zeroValue22
  t93 := Try.underlying57
  a93 := Try.isAgg57
  z93 := Try.sizeOf57
  v93 := Try.zeroValue57
  t130 := Try.underlying29
  a130 := Try.isAgg29
  z130 := Try.sizeOf29
  v130 := Try.zeroValue29
  t5 := Try.underlying5
  a5 := Try.isAgg5
  z5 := Try.sizeOf5
  v5 := Try.zeroValue5
  t91 := Try.underlying55
  a91 := Try.isAgg55
  z91 := Try.sizeOf55
  v91 := Try.zeroValue55
  i0 := by kernel_rfl
  i3 := by kernel_rfl
  i4 := by kernel_rfl
  i5 := by kernel_rfl
  i37 := by kernel_rfl
  i91 := by kernel_rfl
  i93 := by kernel_rfl
  i130 := by kernel_rfl }
def Try.laysM183_ren : Go.Shelf.Ren := ⟨fun | 183 => 34 | n => n, fun | 130 => 29 | 37 => 22 | 0 => 0 | 93 => 57 | 3 => 3 | 5 => 5 | 91 => 55 | n => n, fun | n => n⟩
theorem Try.laysM183 : Go.Proofs.LaysM.n183 Try.prog Try.laysM183_ren := {
  mixed := by kernel_rfl
  f183 := Try.func34.trans (congrArg some (by kernel_rfl))
  t0 := Try.underlying0
  a0 := Try.isAgg0
  z0 := Try.sizeOf0
  v0 := Try.zeroValue0
  t3 := Try.underlying3
  a3 := Try.isAgg3
  z3 := Try.sizeOf3
  v3 := Try.zeroValue3
  t37 := Try.underlying22
  a37 := Try.isAgg22
  z37 := Try.sizeOf22
  v37 := Try.zeroValue22
  t93 := Try.underlying57
  a93 := Try.isAgg57
  z93 := Try.sizeOf57
  v93 := Try.zeroValue57
  t130 := Try.underlying29
  a130 := Try.isAgg29
  z130 := Try.sizeOf29
  v130 := Try.zeroValue29
  t5 := Try.underlying5
  a5 := Try.isAgg5
  z5 := Try.sizeOf5
  v5 := Try.zeroValue5
  t91 := Try.underlying55
  a91 := Try.isAgg55
  z91 := Try.sizeOf55
  v91 := Try.zeroValue55
  i0 := by kernel_rfl
  i3 := by kernel_rfl
  i5 := by kernel_rfl
  i37 := by kernel_rfl
  i91 := by kernel_rfl
  i93 := by kernel_rfl
  i130 := by kernel_rfl }
open Go.RowKit in
/-- (*bytes.Buffer).Bytes: "Bytes returns a slice of length b.Len() holding the unread portion of the buffer. .. The slice aliases the buffer content at least until the next buffer modification": A SLICE THAT OWNS THE CELLS bs ('World.ownsRow': nil where nothing was ever written). The world is as it was but for the count of draws. (LAID: no walk: one application.) -/
theorem Try.Buffer_Bytes (B b : Nat) (bs : List Value) (w : World) (h : Lib.IsBuffer 57 5 B b bs w) :
    Calls Try.prog 34 #[.pointer (some ⟨b, 0, none⟩)] w fun e w' => ∃ v, e = .returned v ∧ w'.ownsRow B 5 1 v bs.length bs ∧ ∃ n, w' = w.drewN n := Any.Buffer_Bytes Try.laysM183 B b bs w h
def Try.laysM252_ren : Go.Shelf.Ren := ⟨fun | 252 => 61 | 181 => 62 | 184 => 57 | 251 => 60 | 290 => 63 | 324 => 64 | n => n, fun | 130 => 29 | 3 => 3 | 4 => 4 | 0 => 0 | 93 => 57 | 131 => 87 | 37 => 22 | 75 => 34 | 91 => 55 | 20 => 20 | 5 => 5 | 80 => 71 | 9 => 9 | n => n, fun | 14 => 0 | n => n⟩
theorem Try.laysM252 : Go.Proofs.LaysM.n252 Try.prog Try.laysM252_ren := {
  mixed := by kernel_rfl
  f181 := Try.func62.trans (congrArg some (by kernel_rfl))
  f184 := Try.func57.trans (congrArg some (by kernel_rfl))
  f251 := Try.func60.trans (congrArg some (by kernel_rfl))
  f252 := Try.func61.trans (congrArg some (by kernel_rfl))
  f290 := Try.func63.trans (congrArg some (by kernel_rfl))
  f324 := Try.func64.trans (congrArg some (by kernel_rfl))
  t0 := Try.underlying0
  a0 := Try.isAgg0
  z0 := Try.sizeOf0
  v0 := Try.zeroValue0
  t3 := Try.underlying3
  a3 := Try.isAgg3
  z3 := Try.sizeOf3
  v3 := Try.zeroValue3
  t4 := Try.underlying4
  a4 := Try.isAgg4
  z4 := Try.sizeOf4
  v4 := Try.zeroValue4
  t20 := Try.underlying20
  a20 := Try.isAgg20
  z20 := Try.sizeOf20
  v20 := Try.zeroValue20
  t37 := Try.underlying22
  a37 := Try.isAgg22
  z37 := Try.sizeOf22
  v37 := Try.zeroValue22
  t75 := Try.underlying34
  a75 := Try.isAgg34
  z75 := Try.sizeOf34
  v75 := Try.zeroValue34
  t91 := Try.underlying55
  a91 := Try.isAgg55
  z91 := Try.sizeOf55
  v91 := Try.zeroValue55
  t93 := Try.underlying57
  a93 := Try.isAgg57
  z93 := Try.sizeOf57
  v93 := Try.zeroValue57
  t130 := Try.underlying29
  a130 := Try.isAgg29
  z130 := Try.sizeOf29
  v130 := Try.zeroValue29
  t131 := Try.underlying87
  a131 := Try.isAgg87
  z131 := Try.sizeOf87
  v131 := Try.zeroValue87
  g14 := by kernel_rfl
  t5 := Try.underlying5
  a5 := Try.isAgg5
  z5 := Try.sizeOf5
  v5 := Try.zeroValue5
  t9 := Try.underlying9
  a9 := Try.isAgg9
  z9 := Try.sizeOf9
  v9 := Try.zeroValue9
  t80 := Try.underlying71
  a80 := Try.isAgg71
  z80 := Try.sizeOf71
  v80 := Try.zeroValue71
  i0 := by kernel_rfl
  i3 := by kernel_rfl
  i4 := by kernel_rfl
  i5 := by kernel_rfl
  i9 := by kernel_rfl
  i20 := by kernel_rfl
  i37 := by kernel_rfl
  i75 := by kernel_rfl
  i80 := by kernel_rfl
  i91 := by kernel_rfl
  i93 := by kernel_rfl
  i130 := by kernel_rfl
  i131 := by kernel_rfl
  m14 := by kernel_rfl }
open Go.RowKit in
/-- tryGrowByReslice: EITHER there is room: the place to write at is the old length, and the buffer holds the old bytes and n more of whatever lay there; OR there is none: nothing turns, and 'Lib.NoRoom' is what grow asks. (LAID: no walk: one application.) -/
theorem Try.Buffer_tryGrow_own (B b n : Nat) (bs : List Value) (w : World) (h : Lib.IsBuffer 57 5 B b bs w) :
    Calls Try.prog 60 #[.pointer (some ⟨b, 0, none⟩), .int .i64 n] w fun e w' =>
      (e = .returned (.tuple #[.int .i64 bs.length, .bool true]) ∧ ∃ xs, xs.length = n ∧ Lib.IsBuffer 57 5 B b (bs ++ xs) w' ∧ Below B w w' ∧ Lib.OthersKept 5 (some b) w w' ∧ w.grownBy w' (some b)) ∨
      (e = .returned (.tuple #[.int .i64 0, .bool false]) ∧ w' = w ∧ Lib.NoRoom b n w) := Any.Buffer_tryGrow_own Try.laysM251 B b n bs w h
open Go.RowKit in
/-- (*bytes.Buffer).grow: "grow grows the buffer to guarantee space for n more bytes. It returns the index where bytes should be written.": WHERE THERE IS NO ROOM; UNDER Go's OWN LIMIT (the new length takes at most 2^47 bytes): the old length; the buffer holds the old bytes and n more of whatever. (LAID: no walk: one application.) -/
theorem Try.Buffer_grow_own (B b n : Nat) (bs : List Value) (w : World) (h : Lib.IsBuffer 57 5 B b bs w) (hnr : Lib.NoRoom b n w) (hBw : B ≤ w.heap.size) (h1 : ∀ v ∈ bs, v.oneCell' = true) (hlim : bs.length + n ≤ 140737488355328) :
    Calls Try.prog 61 #[.pointer (some ⟨b, 0, none⟩), .int .i64 n] w fun e w' => e = .returned (.int .i64 bs.length) ∧ ∃ xs, xs.length = n ∧ Lib.IsBuffer 57 5 B b (bs ++ xs) w' ∧ Below B w w' ∧ Lib.OthersKept 5 (some b) w w' ∧ w.grownBy w' (some b) := Any.Buffer_grow_own Try.laysM252 B b n bs w h hnr hBw h1 hlim
end Go.Proofs
