import Derived.Test.Qxb6609323aMod
namespace Go.Proofs.Qxb6609323a
open Go.RowKit
set_option linter.unusedVariables false

/-- the count at a key -/
def cq (L : List En) (q : Ky) : Int := cnt L q.1 q.2.1 q.2.2

/-- a sum over entries is a sum over the keys -/
def Sh (h : Ky → Int → Int) (L : List En) : Int := (L.map fun e => h e.kk e.c).sum

theorem cq_cons (e : En) (L : List En) (q : Ky) : cq (e :: L) q = if e.kk = q then e.c else cq L q := by
  unfold cq
  rw [cnt_cons]

theorem cq_no {L : List En} {q : Ky} (h : ∀ e ∈ L, e.kk ≠ q) : cq L q = 0 := cnt_no h

theorem sum_if {K : List Ky} (hn : K.Nodup) {q : Ky} (hq : q ∈ K) (f g : Ky → Int) : (K.map fun x => if q = x then g x else f x).sum = (K.map f).sum - f q + g q := by
  induction K with
  | nil => cases hq
  | cons a r ih =>
    obtain ⟨h1, h2⟩ := List.nodup_cons.1 hn
    rw [List.map_cons, List.sum_cons, List.map_cons, List.sum_cons]
    rcases List.mem_cons.1 hq with rfl | hq'
    · rw [if_pos rfl]
      have : (r.map fun x => if q = x then g x else f x) = r.map f := List.map_congr_left fun x hx => if_neg (fun e : q = x => h1 (by rw [e]; exact hx))
      rw [this]
      omega
    · rw [if_neg (fun e : q = a => h1 (by rw [← e]; exact hq')), ih h2 hq']
      omega

theorem sum_keys (h : Ky → Int → Int) (h0 : ∀ q, h q 0 = 0) {K : List Ky} (hn : K.Nodup) {L : List En} (hd : Dk L) (hin : ∀ e ∈ L, e.kk ∈ K) : (K.map fun q => h q (cq L q)).sum = Sh h L := by
  induction L with
  | nil =>
    have : (K.map fun q => h q (cq [] q)) = K.map fun _ => (0 : Int) := List.map_congr_left fun q _ => h0 q
    rw [this]
    clear hn hin this
    induction K with
    | nil => rfl
    | cons a r ih => rw [List.map_cons, List.sum_cons, ih]; rfl
  | cons e r ih =>
    obtain ⟨h1, h2⟩ := List.pairwise_cons.1 hd
    have hr : cq r e.kk = 0 := cq_no (fun x hx e2 => h1 x hx (key_kk.2 e2.symm))
    have he : (K.map fun q => h q (cq (e :: r) q)) = K.map fun q => if e.kk = q then h q e.c else h q (cq r q) := by
      refine List.map_congr_left fun q _ => ?_
      rw [cq_cons]
      split <;> rfl
    rw [he, sum_if hn (hin e (List.mem_cons_self ..)) (fun q => h q (cq r q)) (fun q => h q e.c), ih h2 (fun x hx => hin x (List.mem_cons_of_mem _ hx)), hr, h0]
    unfold Sh
    rw [List.map_cons, List.sum_cons]
    omega

theorem Sh_Wt (g : Ky → Int) (L : List En) : Sh (fun q c => c * g q) L = Wt g L := by
  unfold Sh Wt
  congr 1
  refine List.map_congr_left fun e _ => Int.mul_comm _ _

theorem Sh_len {L : List En} (hp : Pos L) : Sh (fun _ c => if 0 < c then 1 else 0) L = (L.length : Int) := by
  induction L with
  | nil => rfl
  | cons e r ih =>
    unfold Sh at *
    rw [List.map_cons, List.sum_cons, ih (fun x hx => hp x (List.mem_cons_of_mem _ hx))]
    have h1 := hp e (List.mem_cons_self ..)
    simp only [h1, if_true]
    rw [List.length_cons]
    omega

theorem cq_sum {L M N : List En} (hL : Dk L) (hM : Dk M) (hN : Dk N) (hs : ∀ g, Wt g L + Wt g M = Wt g N) (q : Ky) : cq L q + cq M q = cq N q := by
  unfold cq
  rw [cnt_Wt hL, cnt_Wt hM, cnt_Wt hN]
  exact hs _

theorem cq_pos {L : List En} (hp : Pos L) (q : Ky) : 0 ≤ cq L q := (cnt_le (fun q => szk_pos q) hp q.1 q.2.1 q.2.2).1

theorem cq_mem {L : List En} (hd : Dk L) {e : En} (he : e ∈ L) : cq L e.kk = e.c := cnt_mem hd he

/-- an entry's key is a key of the model -/
theorem key_in {T : List Fr} {K : List (Ky × Int)} (hm : M T K) {L : List En} (hd : Dk L) (hp : Pos L) (hc : ∀ q, cq L q ≤ bc T q) {e : En} (he : e ∈ L) : e.kk ∈ K.map (·.1) := by
  have h1 := hc e.kk
  rw [cq_mem hd he] at h1
  have h2 := hp e he
  obtain ⟨f, hf, hk, hq⟩ := bc_pos (T := T) (q := e.kk) (by omega)
  rw [← hq]
  exact hm.al f hf hk

theorem Wt_one_len {L : List En} (hp : Pos L) : (L.length : Int) ≤ Wt (fun _ => 1) L := by
  induction L with
  | nil => exact Int.le_refl 0
  | cons e r ih =>
    rw [Wt_cons, List.length_cons]
    have := ih (fun x hx => hp x (List.mem_cons_of_mem _ hx))
    have := hp e (List.mem_cons_self ..)
    omega

end Go.Proofs.Qxb6609323a
