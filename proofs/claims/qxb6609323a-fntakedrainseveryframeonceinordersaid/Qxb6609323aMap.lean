import Derived.Test.Qxb6609323aFrame
import Derived.Maps.Range
import Derived.DeepKeys4
namespace Go.Proofs.Qxb6609323a
open Go.RowKit Go.Maps
set_option linter.unusedVariables false

theorem laidOut : laidOutB Try.prog = true := by kernel_rfl
theorem row61 : 61 < Try.prog.types.size := of_decide_eq_true (by kernel_rfl)
theorem wide61 : (match Try.prog.underlying 61 with | some (.array _ _) | some (.struct _) => true | _ => false) = true := by rw [Try.underlying61]
theorem law61 : WideMaps.KeyLaw Try.prog 61 := deep_law_laid laidOut (m := 3) (by omega) row61 (by kernel_rfl) wide61
theorem keyed : Keyed Try.prog 61 := Keyed.of_law law61

/-- a key's value -/
def kv (kind owner : Int) (s : ByteArray) : Value := .agg #[.int .u8 kind, .int .i64 owner, .string s]

theorem cells61 : Try.prog.cellsOf 61 = 3 := by kernel_rfl
theorem cells50 : Try.prog.cellsOf 50 = 2 := by kernel_rfl
theorem cells51 : Try.prog.cellsOf 51 = 1 := by kernel_rfl
theorem cells3 : Try.prog.cellsOf 3 = 1 := by kernel_rfl
theorem cells9 : Try.prog.cellsOf 9 = 1 := by kernel_rfl
theorem keyType61 : Try.prog.keyType 61 = true := by kernel_rfl

/-- what a key may hold -/
structure KOk (kind owner : Int) (s : ByteArray) : Prop where
  k : (Lit.int .u8 kind).wf = true
  o : (Lit.int .i64 owner).wf = true
  s : s.size ≤ maxLen

theorem keyOf_kv {kind owner : Int} {s : ByteArray} (h : KOk kind owner s) : ∃ l, keyOf Try.prog 61 (kv kind owner s) = some l := by
  have h1 := h.k
  have h2 := h.o
  have h3 := h.s
  have hl : ∃ ls, Try.prog.keyLits (Try.prog.types.size + 1) 61 [.int .u8 kind, .int .i64 owner, .string s] = some ls := by
    obtain ⟨d, hd⟩ : ∃ d, Try.prog.types.size + 1 = d + 3 := ⟨87, by kernel_rfl⟩
    rw [hd]
    simp [Program.keyLits, Try.underlying61, Try.underlying50, Try.underlying51, Try.underlying3, Try.underlying9, cells61, cells50, cells51, cells3, cells9, h1, h2, h3]
    rw [if_pos (by
      intro i hi
      match i, hi with
      | 0, _ => simp
      | 1, _ => simp)]
    exact ⟨_, rfl⟩
  obtain ⟨ls, hls⟩ := hl
  refine ⟨.string (keyBytes ls), ?_⟩
  unfold kv
  have e : (Value.agg #[.int .u8 kind, .int .i64 owner, .string s]).cells.toList = [.int .u8 kind, .int .i64 owner, .string s] := rfl
  have hf : Value.formed Try.prog 61 (.agg #[.int .u8 kind, .int .i64 owner, .string s]) = true := by simp [Value.formed, Try.underlying61, cells61]
  unfold keyOf
  rw [Try.underlying61]
  simp only [keyType61, hf, e, hls, Bool.and_self, if_true, Option.map_some]

/-- an entry of the map of counts -/
structure En where
  k : Int
  o : Int
  s : ByteArray
  c : Int
  born : Nat

def En.key (e : En) : Value := kv e.k e.o e.s
def En.ent (e : En) : MapEntry := { key := e.key, val := .int .i64 e.c, born := e.born }
def En.is (k o : Int) (s : ByteArray) (e : En) : Bool := decide (e.k = k ∧ e.o = o ∧ e.s = s)

theorem En.is_iff {k o : Int} {s : ByteArray} {e : En} : e.is k o s = true ↔ e.key = kv k o s := by
  unfold En.is En.key kv
  simp

/-- block b is the map of the entries L -/
structure Mp (w : World) (b : Nat) (L : List En) (clk : Nat) : Prop where
  blk : w.heap[b]? = some (.map (L.map En.ent).toArray clk)
  ok : ∀ e ∈ L, KOk e.k e.o e.s
  dk : L.Pairwise (fun x y => x.key ≠ y.key)
  born : ∀ e ∈ L, e.born < clk
  db : (L.map (·.born)).Nodup

/-- the count at a key -/
def cnt (L : List En) (k o : Int) (s : ByteArray) : Int := match L.find? (En.is k o s) with | some e => e.c | none => 0

theorem Mp.reads {w : World} {b clk : Nat} {L : List En} (h : Mp w b L clk) : ∀ e ∈ L.map En.ent, ∃ l, keyOf Try.prog 61 e.key = some l := by
  intro e he
  obtain ⟨x, hx, rfl⟩ := List.mem_map.1 he
  exact keyOf_kv (h.ok x hx)

theorem find_at {L : List En} {k o : Int} {s : ByteArray} (hd : L.Pairwise (fun x y => x.key ≠ y.key)) {e : En} (he : e ∈ L) (hk : e.key = kv k o s) : L.find? (En.is k o s) = some e := by
  induction L with
  | nil => cases he
  | cons a r ih =>
    obtain ⟨h1, h2⟩ := List.pairwise_cons.1 hd
    rcases List.mem_cons.1 he with rfl | he'
    · rw [List.find?_cons_of_pos (En.is_iff.2 hk)]
    · rw [List.find?_cons_of_neg (fun h => h1 e he' ((En.is_iff.1 h).trans hk.symm))]
      exact ih h2 he'

theorem Mp.look {w : World} {b clk : Nat} {L : List En} (h : Mp w b L clk) {k o : Int} {s : ByteArray} (hk : KOk k o s) :
    (Instr.lookup 45 (.map (some b)) (kv k o s) false).run Try.prog w = .ok (.int .i64 (cnt L k o s)) w := by
  obtain ⟨l, hl⟩ := keyOf_kv hk
  have hz : (zeroValue 3).run Try.prog w = .ok (.int .i64 0) w := by kernel_rfl
  have hc := keyed.check w L.isEmpty hl
  rcases keyed.find w hl (L.map En.ent) h.reads with ⟨hf, hno⟩ | ⟨j, e, hf, hj, he⟩
  · have : L.find? (En.is k o s) = none := by
      rw [List.find?_eq_none]
      intro x hx hi
      exact hno _ (List.mem_map.2 ⟨x, hx, rfl⟩) (En.is_iff.1 hi)
    simp [Instr.lookup, run_underlying Try.underlying45, MapKept.run_getObj_map h.blk, hc, hf, hz, Result.andThen, cnt, this]
  · have hm : e ∈ L.map En.ent := List.mem_of_getElem? hj
    obtain ⟨x, hx, rfl⟩ := List.mem_map.1 hm
    have := find_at h.dk hx he
    simp [Instr.lookup, run_underlying Try.underlying45, MapKept.run_getObj_map h.blk, hc, hf, Result.andThen, cnt, this]
    rfl

end Go.Proofs.Qxb6609323a
