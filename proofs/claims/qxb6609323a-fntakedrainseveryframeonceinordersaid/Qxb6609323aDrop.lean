import Derived.Test.Qxb6609323aStore
import Derived.Maps.RangeRun
namespace Go.Proofs.Qxb6609323a
open Go.RowKit Go.Maps Go.WideElems
open Go.ChangeMaps (setBlock modify_eq_set)
set_option linter.unusedVariables false

/-- the entry at a key struck -/
def delE (L : List En) (k o : Int) (s : ByteArray) : List En := L.filter fun e => !e.is k o s

theorem del_none {L : List En} {k o : Int} {s : ByteArray} (h : ∀ x ∈ L, x.key ≠ kv k o s) : delE L k o s = L := by
  unfold delE
  rw [List.filter_eq_self]
  intro x hx
  cases hi : x.is k o s
  · rfl
  · exact absurd (En.is_iff.1 hi) (h x hx)

theorem del_erase {L : List En} {k o : Int} {s : ByteArray} (hd : L.Pairwise (fun x y => x.key ≠ y.key)) {j : Nat} {e : En} (hj : L[j]? = some e) (hk : e.key = kv k o s) : delE L k o s = L.eraseIdx j := by
  induction L generalizing j with
  | nil => simp at hj
  | cons a r ih =>
    obtain ⟨h1, h2⟩ := List.pairwise_cons.1 hd
    cases j with
    | zero =>
      simp at hj
      subst hj
      have : delE (a :: r) k o s = delE r k o s := by
        unfold delE
        rw [List.filter_cons_of_neg]
        simp [En.is_iff.2 hk]
      rw [this, del_none (fun x hx e => h1 x hx (hk.trans e.symm))]
      rfl
    | succ j =>
      have hj' : r[j]? = some e := by simpa using hj
      have hne : a.is k o s = false := by
        cases hi : a.is k o s
        · rfl
        · exact absurd ((En.is_iff.1 hi).trans hk.symm) (h1 e (List.mem_of_getElem? hj'))
      have : delE (a :: r) k o s = a :: delE r k o s := by
        unfold delE
        rw [List.filter_cons_of_pos (by simp [hne])]
      rw [this, ih h2 hj']
      rfl

theorem Mp.dropped {w : World} {b clk : Nat} {L : List En} (h : Mp w b L clk) (k o : Int) (s : ByteArray) : Mp (setBlock w b (.map ((delE L k o s).map En.ent).toArray clk)) b (delE L k o s) clk := by
  refine ⟨set_same h.blk, fun x hx => h.ok x (List.mem_filter.1 hx).1, h.dk.filter _, fun x hx => h.born x (List.mem_filter.1 hx).1, ?_⟩
  exact h.db.sublist (List.Sublist.map _ List.filter_sublist)

theorem Mp.drop {w : World} {b clk : Nat} {L : List En} (h : Mp w b L clk) {k o : Int} {s : ByteArray} (hk : KOk k o s) (ty : TypeId) :
    (Builtin.delete_ #[45, 61] ty #[.map (some b), kv k o s]).run Try.prog w = .ok (.tuple #[]) (setBlock w b (.map ((delE L k o s).map En.ent).toArray clk)) := by
  obtain ⟨l, hl⟩ := keyOf_kv hk
  have hc := keyed.check w L.isEmpty hl
  rcases keyed.find w hl (L.map En.ent) h.reads with ⟨hf, hno⟩ | ⟨j, e, hf, hj, he⟩
  · have hd : delE L k o s = L := del_none (fun x hx e => hno _ (List.mem_map.2 ⟨x, hx, rfl⟩) e)
    rw [hd]
    simp [Builtin.delete_, run_underlying Try.underlying45, MapKept.run_getObj_map h.blk, hc, hf, MapKept.run_setObj_map _ h.blk, Result.andThen, setBlock]
  · have hm : e ∈ L.map En.ent := List.mem_of_getElem? hj
    obtain ⟨x, hx, rfl⟩ := List.mem_map.1 hm
    have hjx : ∃ y, L[j]? = some y ∧ y.key = kv k o s := by
      rw [List.getElem?_map] at hj
      cases hy : L[j]? with
      | none => rw [hy] at hj; cases hj
      | some y =>
        rw [hy] at hj
        simp at hj
        refine ⟨y, rfl, ?_⟩
        have h1 : y.ent.key = kv k o s := by rw [hj]; exact he
        exact h1
    obtain ⟨y, hy, hyk⟩ := hjx
    have hd := del_erase h.dk hy hyk
    have ha : (L.map En.ent).eraseIdx j = (delE L k o s).map En.ent := by rw [hd, Go.ChangeMaps.map_eraseIdx]
    simp [Builtin.delete_, run_underlying Try.underlying45, MapKept.run_getObj_map h.blk, hc, hf, ha, MapKept.run_setObj_map _ h.blk, Result.andThen, setBlock]

theorem Mp.len {w : World} {b clk : Nat} {L : List En} (h : Mp w b L clk) (ty : TypeId) : (Builtin.len_ #[45] ty #[.map (some b)]).run Try.prog w = .ok (.int .i64 (L.length : Int)) w := by
  simp [Builtin.len_, run_underlying Try.underlying45, MapKept.run_getObj_map h.blk, Result.andThen]
  rfl

end Go.Proofs.Qxb6609323a
