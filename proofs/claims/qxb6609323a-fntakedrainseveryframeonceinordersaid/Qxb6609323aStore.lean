import Derived.Test.Qxb6609323aMap
import Derived.WideKeyEntry
namespace Go.Proofs.Qxb6609323a
open Go.RowKit Go.Maps Go.WideElems
open Go.ChangeMaps (setBlock modify_eq_set)
set_option linter.unusedVariables false

/-- the count at a key set -/
def setTo (L : List En) (k o : Int) (s : ByteArray) (v : Int) : List En := L.map fun e => if e.is k o s then { e with c := v } else e

theorem setTo_keys (L : List En) (k o : Int) (s : ByteArray) (v : Int) : (setTo L k o s v).map En.key = L.map En.key := by
  unfold setTo
  rw [List.map_map]
  refine List.map_congr_left fun e _ => ?_
  simp only [Function.comp]
  split <;> rfl

theorem setTo_born (L : List En) (k o : Int) (s : ByteArray) (v : Int) : (setTo L k o s v).map (·.born) = L.map (·.born) := by
  unfold setTo
  rw [List.map_map]
  refine List.map_congr_left fun e _ => ?_
  simp only [Function.comp]
  split <;> rfl

theorem setTo_set {L : List En} {k o : Int} {s : ByteArray} {v : Int} (hd : L.Pairwise (fun x y => x.key ≠ y.key)) {j : Nat} {e : En} (hj : L[j]? = some e) (hk : e.key = kv k o s) :
    (setTo L k o s v).map En.ent = (L.map En.ent).set j { e.ent with val := .int .i64 v } := by
  induction L generalizing j with
  | nil => simp at hj
  | cons a r ih =>
    obtain ⟨h1, h2⟩ := List.pairwise_cons.1 hd
    cases j with
    | zero =>
      simp at hj
      subst hj
      have hr : setTo r k o s v = r := by
        unfold setTo
        conv => rhs; rw [← List.map_id r]
        refine List.map_congr_left fun x hx => ?_
        rw [if_neg]
        · rfl
        · intro hi
          exact h1 x hx (hk.trans (En.is_iff.1 hi).symm)
      show En.ent (if a.is k o s then { a with c := v } else a) :: (setTo r k o s v).map En.ent = _
      rw [hr, if_pos (En.is_iff.2 hk)]
      rfl
    | succ j =>
      have hj' : r[j]? = some e := by simpa using hj
      have hne : ¬ (a.is k o s = true) := fun hi => h1 e (List.mem_of_getElem? hj') ((En.is_iff.1 hi).trans hk.symm)
      show En.ent (if a.is k o s then { a with c := v } else a) :: (setTo r k o s v).map En.ent = _
      rw [if_neg hne, ih h2 hj']
      rfl

theorem Mp.store {w : World} {b clk : Nat} {L : List En} (h : Mp w b L clk) {k o : Int} {s : ByteArray} {e : En} (he : e ∈ L) (hk : e.key = kv k o s) (v : Int) :
    (Instr.entryStore 45 (.map (some b)) (goInt e.born) (.int .i64 v)).run Try.prog w = .ok () (setBlock w b (.map ((setTo L k o s v).map En.ent).toArray clk)) := by
  obtain ⟨j, hj⟩ := List.getElem?_of_mem he
  have hj' : (L.map En.ent)[j]? = some e.ent := by simp [hj]
  have hb : ((L.map En.ent).map (·.born)).Nodup := by
    have := h.db
    rw [List.map_map]
    exact this
  have hidx : (L.map En.ent).toArray.findIdx? (fun x => ((x.born : Nat) : Int) == ((e.born : Nat) : Int)) = some j := by
    rw [findIdx_arr]
    exact findIdx_born (e0 := e.ent) hb hj'
  have hmod : (L.map En.ent).toArray.modify j (fun x => { x with val := .int .i64 v }) = ((setTo L k o s v).map En.ent).toArray := by
    apply Array.ext'
    rw [Array.toList_modify]
    show (L.map En.ent).modify j _ = _
    rw [modify_eq_set _ _ _ _ hj', setTo_set h.dk hj hk]
  simp [Instr.entryStore, MapKept.run_getObj_map h.blk, asInt, asIntOf, goInt, hidx, hmod, MapKept.run_setObj_map _ h.blk, Result.andThen, setBlock]

theorem set_same {w : World} {b : Nat} {o o' : Obj} (h : w.heap[b]? = some o) : (setBlock w b o').heap[b]? = some o' := by
  have hlt : b < w.heap.size := (Array.getElem?_eq_some_iff.1 h).1
  simp [setBlock, hlt]
theorem set_other {w : World} {b k : Nat} {o : Obj} (h : k ≠ b) : (setBlock w b o).heap[k]? = w.heap[k]? := by
  simp [setBlock, Ne.symm h]
theorem set_size (w : World) (b : Nat) (o : Obj) : (setBlock w b o).heap.size = w.heap.size := by simp [setBlock]

theorem setTo_mem {L : List En} {k o : Int} {s : ByteArray} {v : Int} {x : En} (h : x ∈ setTo L k o s v) : ∃ e ∈ L, x.key = e.key ∧ x.born = e.born ∧ x.k = e.k ∧ x.o = e.o ∧ x.s = e.s := by
  obtain ⟨e, he, rfl⟩ := List.mem_map.1 h
  refine ⟨e, he, ?_⟩
  split <;> exact ⟨rfl, rfl, rfl, rfl, rfl⟩

theorem Mp.setTo {w : World} {b clk : Nat} {L : List En} (h : Mp w b L clk) (k o : Int) (s : ByteArray) (v : Int) : Mp (setBlock w b (.map ((setTo L k o s v).map En.ent).toArray clk)) b (setTo L k o s v) clk := by
  refine ⟨set_same h.blk, fun x hx => ?_, ?_, fun x hx => ?_, ?_⟩
  · obtain ⟨e, he, _, _, h1, h2, h3⟩ := setTo_mem hx
    rw [h1, h2, h3]
    exact h.ok e he
  · have h1 : (L.map En.key).Pairwise (· ≠ ·) := List.pairwise_map.2 h.dk
    rw [← setTo_keys L k o s v] at h1
    exact List.pairwise_map.1 h1
  · obtain ⟨e, he, _, h1, _⟩ := setTo_mem hx
    rw [h1]
    exact h.born e he
  · rw [setTo_born]
    exact h.db

/-- m[k] made ready for a store: an entry is there -/
def touch (L : List En) (k o : Int) (s : ByteArray) (clk : Nat) : List En := if L.any (En.is k o s) then L else L ++ [⟨k, o, s, 0, clk⟩]

theorem Mp.entry {w : World} {b clk : Nat} {L : List En} (h : Mp w b L clk) {k o : Int} {s : ByteArray} (hk : KOk k o s) :
    ∃ (clk1 st : Nat), (Instr.mapEntry 45 (.map (some b)) (kv k o s)).run Try.prog w = .ok (.tuple #[.int .i64 (cnt L k o s), goInt st]) (setBlock w b (.map ((touch L k o s clk).map En.ent).toArray clk1)) ∧
      Mp (setBlock w b (.map ((touch L k o s clk).map En.ent).toArray clk1)) b (touch L k o s clk) clk1 ∧ clk ≤ clk1 ∧ (L.any (En.is k o s) = true → clk1 = clk) ∧ ∃ e ∈ touch L k o s clk, e.key = kv k o s ∧ e.born = st := by
  obtain ⟨l, hl⟩ := keyOf_kv hk
  have hz : (zeroValue 3).run Try.prog w = .ok (.int .i64 0) w := by kernel_rfl
  have hc := keyed.check w false hl
  rcases keyed.find w hl (L.map En.ent) h.reads with ⟨hf, hno⟩ | ⟨j, e, hf, hj, he⟩
  · have hn : L.any (En.is k o s) = false := by
      rw [List.any_eq_false]
      intro x hx hi
      exact hno _ (List.mem_map.2 ⟨x, hx, rfl⟩) (En.is_iff.1 hi)
    have hnf : L.find? (En.is k o s) = none := by
      rw [List.find?_eq_none]
      intro x hx hi
      exact hno _ (List.mem_map.2 ⟨x, hx, rfl⟩) (En.is_iff.1 hi)
    have ht : touch L k o s clk = L ++ [⟨k, o, s, 0, clk⟩] := by unfold touch; rw [hn]; rfl
    have ha : ((L ++ [(⟨k, o, s, 0, clk⟩ : En)]).map En.ent).toArray = (L.map En.ent).toArray.push ⟨kv k o s, .int .i64 0, clk⟩ := by
      apply Array.ext'
      simp [En.ent, En.key]
    rw [ht]
    refine ⟨clk + 1, clk, ?_, ⟨set_same h.blk, ?_, ?_, ?_, ?_⟩, by omega, (fun h' => absurd (hn.symm.trans h') (by decide)), ⟨k, o, s, 0, clk⟩, by simp, rfl, rfl⟩
    · rw [ha]
      simp [Instr.mapEntry, run_underlying Try.underlying45, MapKept.run_getObj_map h.blk, hc, hf, hz, MapKept.run_setObj_map _ h.blk, Result.andThen, setBlock, cnt, hnf]
    · intro x hx
      rcases List.mem_append.1 hx with hx | hx
      · exact h.ok x hx
      · simp at hx; subst hx; exact hk
    · rw [List.pairwise_append]
      refine ⟨h.dk, by simp, fun x hx y hy => ?_⟩
      simp at hy
      subst hy
      exact hno _ (List.mem_map.2 ⟨x, hx, rfl⟩)
    · intro x hx
      rcases List.mem_append.1 hx with hx | hx
      · have := h.born x hx; omega
      · simp at hx; subst hx; simp
    · rw [List.map_append, List.nodup_append]
      refine ⟨h.db, by simp, fun a ha' c hc' e1 => ?_⟩
      simp at hc'
      obtain ⟨x, hx, rfl⟩ := List.mem_map.1 ha'
      have := h.born x hx
      omega
  · have hm : e ∈ L.map En.ent := List.mem_of_getElem? hj
    obtain ⟨x, hx, rfl⟩ := List.mem_map.1 hm
    have hfa := find_at h.dk hx he
    have hn : L.any (En.is k o s) = true := List.any_eq_true.2 ⟨x, hx, En.is_iff.2 he⟩
    have ht : touch L k o s clk = L := by unfold touch; rw [hn]; rfl
    rw [ht]
    have hj' : (L.map En.ent).toArray[j]? = some x.ent := by simpa using hj
    have hkx : x.ent.key = kv k o s := he
    have hsame : (L.map En.ent).toArray.modify j (fun e => { e with key := kv k o s }) = (L.map En.ent).toArray := by
      apply Array.ext'
      rw [Array.toList_modify]
      show (L.map En.ent).modify j _ = (L.map En.ent)
      rw [modify_eq_set _ _ _ _ hj]
      have : ({ x.ent with key := kv k o s } : MapEntry) = x.ent := by rw [← hkx]
      rw [this]
      exact set_self _ _ _ hj
    refine ⟨clk, x.born, ?_, ⟨set_same h.blk, h.ok, h.dk, h.born, h.db⟩, Nat.le_refl _, fun _ => rfl, x, hx, he, rfl⟩
    have hcnt : cnt L k o s = x.c := by unfold cnt; rw [hfa]
    rw [hcnt]
    simp only [Instr.mapEntry, Sem.run_bind, run_underlying Try.underlying45, MapKept.run_getObj_map h.blk, hc, hf, hj', hkx, keyed.stays w hl, hsame, MapKept.run_setObj_map _ h.blk, Result.andThen, setBlock, Option.map_some, Option.getD_some, Sem.run_pure]
    rfl

end Go.Proofs.Qxb6609323a
