import Derived.Test.Qxb6609323aDel
namespace Go.Proofs.Qxb6609323a
open Go.RowKit Go.Maps Go.WideElems
open Go.ChangeMaps (setBlock modify_eq_set)
set_option linter.unusedVariables false

abbrev Ky := Int × Int × ByteArray
def En.kk (e : En) : Ky := (e.k, e.o, e.s)
def Wt (g : Ky → Int) (L : List En) : Int := (L.map fun e => g e.kk * e.c).sum
abbrev Dk (L : List En) : Prop := L.Pairwise (fun x y => x.key ≠ y.key)
def Pos (L : List En) : Prop := ∀ e ∈ L, 0 < e.c

theorem Wt_nil (g : Ky → Int) : Wt g [] = 0 := rfl
theorem Wt_cons (g : Ky → Int) (e : En) (L : List En) : Wt g (e :: L) = g e.kk * e.c + Wt g L := by simp [Wt]
theorem Wt_append (g : Ky → Int) (L M : List En) : Wt g (L ++ M) = Wt g L + Wt g M := by simp [Wt]

theorem is_kk {k o : Int} {s : ByteArray} {e : En} : e.is k o s = true ↔ e.kk = (k, o, s) := by
  unfold En.is En.kk
  simp

theorem key_kk {e f : En} : e.key = f.key ↔ e.kk = f.kk := by
  unfold En.key En.kk kv
  simp

theorem key_is {k o : Int} {s : ByteArray} {e : En} : e.key = kv k o s ↔ e.kk = (k, o, s) := En.is_iff.symm.trans is_kk

theorem cnt_cons (e : En) (L : List En) (k o : Int) (s : ByteArray) : cnt (e :: L) k o s = if e.kk = (k, o, s) then e.c else cnt L k o s := by
  unfold cnt
  by_cases h : e.is k o s = true
  · rw [List.find?_cons_of_pos h, if_pos (is_kk.1 h)]
  · rw [List.find?_cons_of_neg h, if_neg (fun e' => h (is_kk.2 e'))]

theorem cnt_no {L : List En} {k o : Int} {s : ByteArray} (h : ∀ e ∈ L, e.kk ≠ (k, o, s)) : cnt L k o s = 0 := by
  induction L with
  | nil => rfl
  | cons e r ih =>
    rw [cnt_cons, if_neg (h e (List.mem_cons_self ..))]
    exact ih (fun x hx => h x (List.mem_cons_of_mem _ hx))

theorem Wt_no {g : Ky → Int} {q : Ky} {L : List En} (h : ∀ e ∈ L, e.kk ≠ q) : Wt (fun x => if x = q then g x else 0) L = 0 := by
  induction L with
  | nil => rfl
  | cons e r ih =>
    rw [Wt_cons, if_neg (h e (List.mem_cons_self ..)), ih (fun x hx => h x (List.mem_cons_of_mem _ hx))]
    simp

theorem cnt_mem {L : List En} (hd : Dk L) {e : En} (he : e ∈ L) : cnt L e.k e.o e.s = e.c := by
  unfold cnt
  rw [find_at hd he rfl]

theorem cnt_Wt {L : List En} (hd : Dk L) (k o : Int) (s : ByteArray) : cnt L k o s = Wt (fun q => if q = (k, o, s) then 1 else 0) L := by
  induction L with
  | nil => rfl
  | cons e r ih =>
    obtain ⟨h1, h2⟩ := List.pairwise_cons.1 hd
    rw [cnt_cons, Wt_cons]
    by_cases h : e.kk = (k, o, s)
    · rw [if_pos h, if_pos h, Wt_no (g := fun _ => 1) (fun x hx hx2 => h1 x hx (key_kk.2 (h.trans hx2.symm)))]
      simp
    · rw [if_neg h, if_neg h, ih h2]
      simp

theorem setTo_cons (e : En) (L : List En) (k o : Int) (s : ByteArray) (v : Int) : setTo (e :: L) k o s v = (if e.is k o s then { e with c := v } else e) :: setTo L k o s v := rfl

theorem setTo_no {L : List En} {k o : Int} {s : ByteArray} {v : Int} (h : ∀ e ∈ L, e.kk ≠ (k, o, s)) : setTo L k o s v = L := by
  induction L with
  | nil => rfl
  | cons e r ih =>
    rw [setTo_cons, if_neg (fun hi => h e (List.mem_cons_self ..) (is_kk.1 hi)), ih (fun x hx => h x (List.mem_cons_of_mem _ hx))]

theorem Wt_setTo {L : List En} (hd : Dk L) {k o : Int} {s : ByteArray} (v : Int) (g : Ky → Int) (he : ∃ e ∈ L, e.kk = (k, o, s)) : Wt g (setTo L k o s v) = Wt g L + g (k, o, s) * (v - cnt L k o s) := by
  induction L with
  | nil => obtain ⟨e, h, _⟩ := he; cases h
  | cons e r ih =>
    obtain ⟨h1, h2⟩ := List.pairwise_cons.1 hd
    rw [setTo_cons, Wt_cons, Wt_cons, cnt_cons]
    by_cases h : e.kk = (k, o, s)
    · rw [if_pos (is_kk.2 h), if_pos h, setTo_no (fun x hx hx2 => h1 x hx (key_kk.2 (h.trans hx2.symm)))]
      have h3 : ({ e with c := v } : En).kk = (k, o, s) := h
      rw [h3, h]
      show g (k, o, s) * v + Wt g r = _
      rw [Int.mul_sub]
      omega
    · rw [if_neg (fun hi => h (is_kk.1 hi)), if_neg h, ih h2]
      · omega
      · obtain ⟨x, hx, hx2⟩ := he
        rcases List.mem_cons.1 hx with rfl | hx
        · exact absurd hx2 h
        · exact ⟨x, hx, hx2⟩

theorem setTo_dk {L : List En} (hd : Dk L) (k o : Int) (s : ByteArray) (v : Int) : Dk (setTo L k o s v) := by
  have h1 : (L.map En.key).Pairwise (· ≠ ·) := List.pairwise_map.2 hd
  rw [← setTo_keys L k o s v] at h1
  exact List.pairwise_map.1 h1

theorem touch_dk {L : List En} (hd : Dk L) (k o : Int) (s : ByteArray) (clk : Nat) : Dk (touch L k o s clk) := by
  unfold touch
  split
  · exact hd
  · rename_i h
    rw [Bool.not_eq_true, List.any_eq_false] at h
    rw [Dk, List.pairwise_append]
    refine ⟨hd, by simp, fun x hx y hy e => ?_⟩
    simp at hy
    subst hy
    exact h x hx (En.is_iff.2 e)

theorem touch_mem (L : List En) (k o : Int) (s : ByteArray) (clk : Nat) : ∃ e ∈ touch L k o s clk, e.kk = (k, o, s) := by
  unfold touch
  split
  · rename_i h
    obtain ⟨e, he, hi⟩ := List.any_eq_true.1 h
    exact ⟨e, he, is_kk.1 hi⟩
  · exact ⟨_, List.mem_append_right _ (List.mem_singleton.2 rfl), rfl⟩

theorem Wt_touch (L : List En) (k o : Int) (s : ByteArray) (clk : Nat) (g : Ky → Int) : Wt g (touch L k o s clk) = Wt g L := by
  unfold touch
  split
  · rfl
  · rw [Wt_append, Wt_cons, Wt_nil]
    simp

theorem Wt_bump {L : List En} (hd : Dk L) (k o : Int) (s : ByteArray) (v : Int) (clk : Nat) (g : Ky → Int) : Wt g (bump L k o s v clk) = Wt g L + g (k, o, s) * (v - cnt L k o s) := by
  unfold bump
  rw [Wt_setTo (touch_dk hd k o s clk) v g (touch_mem L k o s clk), Wt_touch, cnt_touch]

theorem bump_pos {L : List En} (hp : Pos L) (k o : Int) (s : ByteArray) (v : Int) (clk : Nat) (hv : 0 < v) : Pos (bump L k o s v clk) := by
  intro x hx
  unfold bump setTo at hx
  obtain ⟨e, he, rfl⟩ := List.mem_map.1 hx
  split
  · exact hv
  · rename_i h
    unfold touch at he
    split at he
    · exact hp e he
    · rcases List.mem_append.1 he with he | he
      · exact hp e he
      · rw [List.mem_singleton] at he
        subst he
        exact absurd (is_kk.2 rfl) h

theorem bump_ne (L : List En) (k o : Int) (s : ByteArray) (v : Int) (clk : Nat) : bump L k o s v clk ≠ [] := by
  intro h
  obtain ⟨e, he, _⟩ := touch_mem L k o s clk
  unfold bump setTo at h
  rw [List.map_eq_nil_iff] at h
  rw [h] at he
  cases he

/-- d of the count at a key taken off; an entry of nought is struck -/
def dec (L : List En) (k o : Int) (s : ByteArray) (d : Int) : List En :=
  if cnt L k o s - d = 0 then delE (setTo L k o s (cnt L k o s - d)) k o s else setTo L k o s (cnt L k o s - d)

theorem Wt_del {L : List En} (hd : Dk L) (k o : Int) (s : ByteArray) (g : Ky → Int) : Wt g (delE L k o s) = Wt g L - g (k, o, s) * cnt L k o s := by
  induction L with
  | nil => simp [delE, Wt, cnt]
  | cons e r ih =>
    obtain ⟨h1, h2⟩ := List.pairwise_cons.1 hd
    rw [Wt_cons, cnt_cons]
    by_cases h : e.kk = (k, o, s)
    · have : delE (e :: r) k o s = r := by
        have h3 : delE (e :: r) k o s = delE r k o s := by
          unfold delE
          rw [List.filter_cons_of_neg]
          simp [is_kk.2 h]
        rw [h3, del_none (fun x hx e2 => h1 x hx (key_kk.2 (h.trans (key_is.1 e2).symm)))]
      rw [this, if_pos h, h]
      omega
    · have : delE (e :: r) k o s = e :: delE r k o s := by
        unfold delE
        rw [List.filter_cons_of_pos]
        cases hi : e.is k o s
        · rfl
        · exact absurd (is_kk.1 hi) h
      rw [this, if_neg h, Wt_cons, ih h2]
      omega

theorem cnt_setTo {L : List En} {k o : Int} {s : ByteArray} {v : Int} (he : ∃ e ∈ L, e.kk = (k, o, s)) : cnt (setTo L k o s v) k o s = v := by
  induction L with
  | nil => obtain ⟨e, h, _⟩ := he; cases h
  | cons e r ih =>
    rw [setTo_cons, cnt_cons]
    by_cases h : e.kk = (k, o, s)
    · rw [if_pos (is_kk.2 h)]
      have h3 : ({ e with c := v } : En).kk = (k, o, s) := h
      rw [if_pos h3]
    · rw [if_neg (fun hi => h (is_kk.1 hi)), if_neg h, ih]
      obtain ⟨x, hx, hx2⟩ := he
      rcases List.mem_cons.1 hx with rfl | hx
      · exact absurd hx2 h
      · exact ⟨x, hx, hx2⟩

theorem Wt_dec {L : List En} (hd : Dk L) (k o : Int) (s : ByteArray) (d : Int) (g : Ky → Int) (he : ∃ e ∈ L, e.kk = (k, o, s)) : Wt g (dec L k o s d) = Wt g L - g (k, o, s) * d := by
  unfold dec
  split
  · rename_i h
    rw [Wt_del (setTo_dk hd ..), Wt_setTo hd _ _ he, cnt_setTo he, h]
    have h2 : cnt L k o s = d := by omega
    rw [h2]
    simp
    rw [Int.mul_neg]
    omega
  · rw [Wt_setTo hd _ _ he]
    have : cnt L k o s - d - cnt L k o s = -d := by omega
    rw [this, Int.mul_neg]
    omega

theorem dec_mem {L : List En} {k o : Int} {s : ByteArray} {d : Int} {x : En} (h : x ∈ dec L k o s d) : ∃ e ∈ L, x.kk = e.kk ∧ x.born = e.born ∧ (x = e ∨ (x.kk = (k, o, s) ∧ x.c = cnt L k o s - d ∧ cnt L k o s - d ≠ 0)) := by
  unfold dec at h
  have hs : ∀ x, x ∈ setTo L k o s (cnt L k o s - d) → ∃ e ∈ L, x.kk = e.kk ∧ x.born = e.born ∧ (x = e ∨ (x.kk = (k, o, s) ∧ x.c = cnt L k o s - d)) := by
    intro x hx
    unfold setTo at hx
    obtain ⟨e, he, rfl⟩ := List.mem_map.1 hx
    refine ⟨e, he, ?_⟩
    split
    · rename_i h
      exact ⟨rfl, rfl, .inr ⟨is_kk.1 h, rfl⟩⟩
    · exact ⟨rfl, rfl, .inl rfl⟩
  split at h
  · obtain ⟨h1, h2⟩ := List.mem_filter.1 h
    obtain ⟨e, he, h3, h4, h5 | h5⟩ := hs x h1
    · exact ⟨e, he, h3, h4, .inl h5⟩
    · exfalso
      rw [is_kk.2 h5.1] at h2
      cases h2
  · rename_i h0
    obtain ⟨e, he, h3, h4, h5 | h5⟩ := hs x h
    · exact ⟨e, he, h3, h4, .inl h5⟩
    · exact ⟨e, he, h3, h4, .inr ⟨h5.1, h5.2, h0⟩⟩

theorem dec_pos {L : List En} (hp : Pos L) {k o : Int} {s : ByteArray} {d : Int} (hd : d ≤ cnt L k o s) : Pos (dec L k o s d) := by
  intro x hx
  obtain ⟨e, he, _, _, rfl | ⟨_, h1, h2⟩⟩ := dec_mem hx
  · exact hp x he
  · rw [h1]; omega

/-- how many entries are still to come -/
def un (L : List En) (seen : Array Nat) : Nat := (L.map (·.born)).countP (fun b => !seen.contains b)

theorem left_un (L : List En) (seen : Array Nat) : (leftOf (L.map En.ent).toArray seen).size = un L seen := by
  unfold leftOf un
  rw [← Array.length_toList, Array.toList_filter]
  show ((L.map En.ent).filter _).length = _
  rw [← List.countP_eq_length_filter, List.countP_map, List.countP_map]
  rfl

theorem countP_lt {p q : Nat → Bool} {l : List Nat} (h : ∀ x ∈ l, q x = true → p x = true) {b : Nat} (hb : b ∈ l) (h1 : p b = true) (h2 : q b = false) : l.countP q < l.countP p := by
  induction l with
  | nil => cases hb
  | cons a r ih =>
    have hm : r.countP q ≤ r.countP p := List.countP_mono_left (fun x hx => h x (List.mem_cons_of_mem _ hx))
    rw [List.countP_cons, List.countP_cons]
    rcases List.mem_cons.1 hb with rfl | hb
    · rw [h1, h2]
      simp
      omega
    · have := ih (fun x hx => h x (List.mem_cons_of_mem _ hx)) hb
      have ha := h a (List.mem_cons_self ..)
      cases hq : q a
      · simp
        split <;> omega
      · rw [ha hq]
        simp
        omega

theorem dec_born (L : List En) (k o : Int) (s : ByteArray) (d : Int) : ((dec L k o s d).map (·.born)).Sublist (L.map (·.born)) := by
  unfold dec
  split
  · refine List.Sublist.trans ?_ (by rw [setTo_born L k o s (cnt L k o s - d)]; exact List.Sublist.refl _ : ((setTo L k o s (cnt L k o s - d)).map (·.born)).Sublist (L.map (·.born)))
    exact List.Sublist.map _ List.filter_sublist
  · rw [setTo_born]
    exact List.Sublist.refl _

theorem un_dec {L : List En} {seen : Array Nat} {e : En} (he : e ∈ L) (hu : seen.contains e.born = false) (k o : Int) (s : ByteArray) (d : Int) : un (dec L k o s d) (seen.push e.born) < un L seen := by
  unfold un
  refine Nat.lt_of_le_of_lt ((dec_born L k o s d).countP_le) ?_
  refine countP_lt (b := e.born) (fun x _ hx => ?_) (List.mem_map.2 ⟨e, he, rfl⟩) (by rw [hu]; rfl) (by simp)
  simp at hx ⊢
  exact hx.1

end Go.Proofs.Qxb6609323a
