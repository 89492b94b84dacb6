import Derived.Test.Qxb6612279aWrote
namespace Go.Proofs.Qxb6612279a
open Go.RowKit
set_option linter.unusedVariables false

theorem meth67 (b : Nat) (w : World) : (method 199 67 (.agg #[.iface 29 (.pointer (some ⟨b, 0, none⟩))]) "Write").run Try.prog w = .ok (59, .pointer (some ⟨b, 0, none⟩)) w := by kernel_rfl
theorem meth29 (b : Nat) (w : World) : (method 199 29 (.pointer (some ⟨b, 0, none⟩)) "Write").run Try.prog w = .ok (59, .pointer (some ⟨b, 0, none⟩)) w := by kernel_rfl
theorem methPart (b : Nat) (w : World) : (method 199 67 (.agg #[.iface 29 (.pointer (some ⟨b, 0, none⟩))]) "WritePart").run Try.prog w = .ok (66, .agg #[.iface 29 (.pointer (some ⟨b, 0, none⟩))]) w := by kernel_rfl

def U8 (xs : List Int) : List Value := xs.map (Value.int .u8)
theorem U8_one (xs : List Int) : ∀ v ∈ U8 xs, v.oneCell' = true := ints_oneCell _ _
theorem U8_length (xs : List Int) : (U8 xs).length = xs.length := by simp [U8]
theorem U8_append (xs ys : List Int) : U8 (xs ++ ys) = U8 xs ++ U8 ys := by simp [U8]

/-- the ItemBuffer at I over the sink at b, which has taken bs -/
structure S (w : World) (I b : Nat) (bs : List Int) (G : Option Nat) (buf : Value) (whole : Int) (err : Value) : Prop where
  ib : IB w I (dstV b) buf whole err
  has : Has w b (U8 bs) G

theorem Rw.ne_ib {w : World} {R cap I : Nat} {bs : List Value} {d buf err : Value} {k : Int} (h : Rw w R cap bs) (hI : IB w I d buf k err) : R ≠ I := by
  rintro rfl
  obtain ⟨cur, h, _⟩ := h
  unfold IB at hI
  rw [hI] at h
  simp at h

theorem Rw.ne_sk {w : World} {R cap b : Nat} {bs : List Value} {v : Value} (h : Rw w R cap bs) (hs : Sk w b v) : R ≠ b := by
  rintro rfl
  obtain ⟨cur, h, _⟩ := h
  obtain ⟨lr, hs⟩ := hs
  rw [hs] at h
  simp at h

theorem Has.sk {w : World} {b : Nat} {bs : List Value} {G : Option Nat} (h : Has w b bs G) : ∃ v, Sk w b v := by
  rcases h with ⟨h1, _⟩ | ⟨g, cap, h1, _⟩
  · exact ⟨_, h1⟩
  · exact ⟨_, h1⟩

theorem S.ne_b {w : World} {I b : Nat} {bs : List Int} {G : Option Nat} {buf err : Value} {whole : Int} (h : S w I b bs G buf whole err) : I ≠ b := by
  rintro rfl
  obtain ⟨v, lr, hs⟩ := h.has.sk
  have := h.ib
  unfold IB at this
  rw [this] at hs
  simp at hs

theorem S.ne_G {w : World} {I b : Nat} {bs : List Int} {G : Option Nat} {buf err : Value} {whole : Int} (h : S w I b bs G buf whole err) : some I ≠ G := by
  rintro rfl
  rcases h.has with ⟨_, _, e⟩ | ⟨g, cap, _, h2, _, _, e⟩
  · cases e
  · cases e
    exact h2.ne_ib h.ib rfl

theorem Rw.cells {w : World} {R cap : Nat} {bs : List Value} (h : Rw w R cap bs) : ∀ j v, bs[j]? = some v → w.cell? ((⟨R, 0, none⟩ : Addr).add j) = some v := by
  intro j v hj
  obtain ⟨cur, h, hs, hl, ht⟩ := h
  rw [Addr.add_lit]
  have hjl : j < bs.length := (List.getElem?_eq_some_iff.1 hj).1
  rw [← ht, List.getElem?_take, if_pos hjl] at hj
  simp only [World.cell?, h, Nat.zero_add]
  simpa using hj

/-- what one write-out does, but for the answer -/
def Out (w w' : World) (I b R cap : Nat) (bs : List Int) (G : Option Nat) (gone held : List Int) (err : Value) : Prop :=
  ∃ G', S w' I b (bs ++ gone) G' (.slice (some ⟨R, 0, none⟩) held.length cap) (-1) err ∧ Rw w' R cap (U8 held) ∧ some R ≠ G' ∧ (G' = G ∨ ∃ N, G' = some N ∧ w.heap.size ≤ N) ∧ Kept w w' (fun k => k = I ∨ k = b ∨ k = R ∨ some k = G)

theorem out_of {w w1 w2 w3 : World} {I b R cap : Nat} {bs gone held : List Int} {G G' : Option Nat} {buf err : Value} {whole : Int}
    (hS : S w I b bs G buf whole err) (hr : Rw w R cap (U8 (gone ++ held))) (hcap : cap ≤ maxLen) (hRG : some R ≠ G) (hk1 : Kept w w1 (fun _ => False)) (hG : G' = G ∨ ∃ N, G' = some N ∧ w1.heap.size ≤ N)
    (hh : Has w2 b (U8 bs ++ U8 gone) G') (hk2 : Kept w1 w2 (fun k => k = b ∨ some k = G))
    (hI : IB w3 I (dstV b) (.slice (some ⟨R, 0, none⟩) held.length cap) (-1) err) (hR3 : ∃ cur, w2.heap[R]? = some (.cells cur 5 (0, 0)) ∧ w3.heap[R]? = some (.cells (slid cur gone.length held.length) 5 (0, 0))) (hk3 : Kept w2 w3 (fun k => k = I ∨ k = R)) :
    Out w w3 I b R cap bs G gone held err := by
  have hk12 : Kept w w2 (fun k => k = b ∨ some k = G) := hk1.trans hk2 (fun _ _ e => e.elim) (fun _ _ e => e)
  have hRb : R ≠ b := by obtain ⟨v, hs⟩ := hS.has.sk; exact hr.ne_sk hs
  have hRI := hr.ne_ib hS.ib
  have hr2 : Rw w2 R cap (U8 (gone ++ held)) := hr.of_block (hk12.block R hr.lt (fun e => e.elim hRb hRG))
  have hRG' : some R ≠ G' := by
    rcases hG with rfl | ⟨N, rfl, hN⟩
    · exact hRG
    · intro e
      cases e
      have := hr.lt
      have := hk1.size
      omega
  have hIlt : I < w.heap.size := heap_lt hS.ib
  have hIG' : some I ≠ G' := by
    rcases hG with rfl | ⟨N, rfl, hN⟩
    · exact hS.ne_G
    · intro e
      cases e
      have := hk1.size
      omega
  refine ⟨G', ⟨hI, ?_⟩, ?_, hRG', ?_, ?_⟩
  · rw [U8_append]
    refine hh.of_blocks (hk3.block b hh.lt (fun e => e.elim (fun e => hS.ne_b e.symm) (fun e => hRb e.symm))) (fun g hg => hk3.block g (hh.ltG g hg).1 (fun e => e.elim (fun e => hIG' (by rw [hg, e])) (fun e => hRG' (by rw [hg, e]))))
  · obtain ⟨cur, h2, h3⟩ := hR3
    obtain ⟨cur', h2', hs', hl', ht'⟩ := hr2
    rw [h2] at h2'
    cases h2'
    rw [U8_length, List.length_append] at hl' ht'
    refine ⟨_, h3, ?_, by rw [U8_length]; omega, ?_⟩
    · rw [slid_size _ _ _ (by omega)]; exact hs'
    · rw [U8_length, slid_take _ _ _ (by omega)]
      have e : (cur.toList.drop gone.length).take held.length = (cur.toList.take (gone.length + held.length)).drop gone.length := by
        rw [List.drop_take]; congr 1; omega
      rw [e, ht', U8_append]
      exact List.drop_left' (U8_length gone)
  · exact hG.imp id (fun ⟨N, h1, h2⟩ => ⟨N, h1, by have := hk1.size; omega⟩)
  · exact hk12.trans hk3 (fun _ _ e => e.elim (fun e => .inr (.inl e)) (fun e => .inr (.inr (.inr e)))) (fun _ _ e => e.elim .inl (fun e => .inr (.inr (.inl e))))

theorem slid_one {cur : Array Value} {n m : Nat} {xs : List Int} (h : cur.toList.take (n + m) = U8 xs) : ∀ v ∈ (cur.toList.drop n).take m, v.oneCell' = true := by
  intro v hv
  have e : (cur.toList.drop n).take m = (cur.toList.take (n + m)).drop n := by
    rw [List.drop_take]; congr 1; omega
  rw [e, h] at hv
  exact U8_one xs v (List.mem_of_mem_drop hv)

set_option maxRecDepth 100000 in
set_option maxHeartbeats 2000000 in
theorem writeWhole_yes (I R b cap : Nat) (bs gone held : List Int) (G : Option Nat) (err : Value) (w : World) (hS : S w I b bs G (.slice (some ⟨R, 0, none⟩) (gone.length + held.length) cap) gone.length err)
    (hr : Rw w R cap (U8 (gone ++ held))) (hcap : cap ≤ maxLen) (hRG : some R ≠ G) (hlim : bs.length + gone.length ≤ 1073741824) :
    Calls Try.prog 39 #[.pointer (some ⟨I, 0, none⟩)] w fun e w' => e = .returned (.bool true) ∧ Out w w' I b R cap bs G gone held err := by
  have hL : gone.length + held.length ≤ cap := by obtain ⟨_, _, _, h, _⟩ := hr; rw [U8_length, List.length_append] at h; exact h
  have hRb : R ≠ b := by obtain ⟨v, hs⟩ := hS.has.sk; exact hr.ne_sk hs
  have hRI := hr.ne_ib hS.ib
  have c0 := hS.ib.c0
  have c1 := hS.ib.c1
  have c2 := hS.ib.c2
  have HWr := hide (write_any b gone.length cap ⟨R, 0, none⟩ (U8 bs) (U8 gone) G w.drew hS.has (U8_one _) (U8_length _) hRb (fun j v hj => hr.cells j v (by rw [U8_append, List.getElem?_append_left (List.getElem?_eq_some_iff.1 hj).1]; exact hj)) (U8_one _) (by rw [U8_length]; exact hlim))
  have hcap' := hcap
  unfold maxLen at hcap'
  unfold dstV at c0
  have hn0 : decide ((gone.length : Int) < 0) = false := decide_eq_false (by omega)
  have hL' : (gone.length : Int) ≤ (cap : Int) := by omega
  have hm := meth67
  have HS := hide hS
  have HR := hide hr
  clear hS hr
  go_enter Try.func39, Try.ntmps39
  go_wp2_with fail
  go_region_with (go_at_call 59; refine HWr.out.mono ?_; rintro e w2 ⟨rfl, G', hG, hh, hk⟩)
  all_goals
    have hk12 : Kept w w2 (fun k => k = b ∨ some k = G) := (Kept.drewN w 1).trans hk (fun _ _ e => e.elim) (fun _ _ e => e)
    have hI2 := HS.out.ib.of_block (hk12.block I (heap_lt HS.out.ib) (fun e => e.elim HS.out.ne_b HS.out.ne_G))
    have hr2 := HR.out.of_block (hk12.block R HR.out.lt (fun e => e.elim hRb hRG))
    have q2 := hI2.c2
    obtain ⟨cur, hcur, hcs, _, htk⟩ := hr2
    rw [U8_length, List.length_append] at htk
    have HWt := hide (wrote_nil I R cap gone.length held.length (dstV b) err gone.length cur w2 hI2 hcur hcs hL hcap hRI (slid_one htk))
    have HH := hide hh
    have HK := hide hk
    have HC := hide hcur
    have HG := hide hG
    clear hI2 hcur hh hk hk12 htk hG
    go_wp2_with fail
    refine HWt.out.mono ?_
    rintro e w3 ⟨rfl, hI3, hR3, hk3⟩
    go_wp2_with fail
    go_ret
    exact ⟨rfl, out_of HS.out HR.out hcap hRG (Kept.drewN w 1) HG.out HH.out HK.out hI3 ⟨cur, HC.out, hR3⟩ hk3⟩

theorem Has.alloc {w : World} {b : Nat} {bs : List Value} {G : Option Nat} (h : Has w b bs G) (o : Obj) : Has (w.alloc o) b bs G :=
  h.of_blocks (Below.heap_alloc _ _ _ h.lt) (fun g hg => Below.heap_alloc _ _ _ (h.ltG g hg).1)

theorem Kept.alloc (w : World) (o : Obj) : Kept w (w.alloc o) (fun _ => False) := ⟨rfl, rfl, rfl, by simp, fun k hk _ => Below.heap_alloc _ _ _ hk⟩

set_option maxRecDepth 100000 in
set_option maxHeartbeats 2000000 in
theorem part66 (b c R cap : Nat) (bs xs : List Int) (G : Option Nat) (w : World) (h : Has w b (U8 bs) G) (hr : Rw w R cap (U8 xs)) (hlim : bs.length + xs.length ≤ 1073741824) :
    Calls Try.prog 66 #[.agg #[.iface 29 (.pointer (some ⟨b, 0, none⟩))], .slice (some ⟨R, 0, none⟩) xs.length c] w fun e w' => e = .returned (.tuple #[.int .i64 xs.length, .nilIface]) ∧
      ∃ G', (G' = G ∨ ∃ N, G' = some N ∧ w.heap.size ≤ N) ∧ Has w' b (U8 bs ++ U8 xs) G' ∧ Kept w w' (fun k => k = b ∨ some k = G) := by
  have hRb : R ≠ b := by obtain ⟨v, hs⟩ := h.sk; exact hr.ne_sk hs
  have HWr := hide (fun o => write_any b xs.length c ⟨R, 0, none⟩ (U8 bs) (U8 xs) G (w.alloc o) (h.alloc o) (U8_one _) (U8_length _) hRb (fun j v hj => (hr.of_block (Below.heap_alloc w o R hr.lt)).cells j v hj) (U8_one _) (by rw [U8_length]; exact hlim))
  have hm := meth29
  clear h hr
  go_enter Try.func66, Try.ntmps66
  go_wp2_with fail
  refine (HWr.out _).mono ?_
  rintro e w2 ⟨rfl, G', hG, hh, hk⟩
  go_wp2_with fail
  go_ret2
  exact ⟨rfl, G', hG.imp id (fun ⟨N, h1, h2⟩ => ⟨N, h1, by simp at h2; omega⟩), hh, (Kept.alloc w _).trans hk (fun _ _ e => e.elim) (fun _ _ e => e)⟩

set_option maxRecDepth 100000 in
set_option maxHeartbeats 2000000 in
theorem writePart_any (I R b cap : Nat) (bs gone : List Int) (G : Option Nat) (err : Value) (k0 : Int) (w : World) (hS : S w I b bs G (.slice (some ⟨R, 0, none⟩) gone.length cap) k0 err)
    (hr : Rw w R cap (U8 gone)) (hcap : cap ≤ maxLen) (hRG : some R ≠ G) (hlim : bs.length + gone.length ≤ 1073741824) :
    Calls Try.prog 40 #[.pointer (some ⟨I, 0, none⟩)] w fun e w' => e = .returned (.tuple #[]) ∧ Out w w' I b R cap bs G gone [] err := by
  have hL : gone.length ≤ cap := by obtain ⟨_, _, _, h, _⟩ := hr; rw [U8_length] at h; exact h
  have hRb : R ≠ b := by obtain ⟨v, hs⟩ := hS.has.sk; exact hr.ne_sk hs
  have hRI := hr.ne_ib hS.ib
  have c0 := hS.ib.c0
  have c1 := hS.ib.c1
  have HWr := hide (part66 b cap R cap bs gone G w.drew hS.has hr hlim)
  have hcap' := hcap
  unfold maxLen at hcap'
  unfold dstV at c0
  have hm := methPart
  have HS := hide hS
  have HR := hide hr
  clear hS hr
  go_enter Try.func40, Try.ntmps40
  go_wp2_with fail
  go_region_with (go_at_call 66; refine HWr.out.mono ?_; rintro e w2 ⟨rfl, G', hG, hh, hk⟩)
  all_goals
    have hk12 : Kept w w2 (fun k => k = b ∨ some k = G) := (Kept.drewN w 1).trans hk (fun _ _ e => e.elim) (fun _ _ e => e)
    have hI2 := HS.out.ib.of_block (hk12.block I (heap_lt HS.out.ib) (fun e => e.elim HS.out.ne_b HS.out.ne_G))
    have hr2 := HR.out.of_block (hk12.block R HR.out.lt (fun e => e.elim hRb hRG))
    have q1 := hI2.c1
    obtain ⟨cur, hcur, hcs, _, htk⟩ := hr2
    rw [U8_length] at htk
    have HWt := hide (wrote_nil I R cap gone.length 0 (dstV b) err k0 cur w2 hI2 hcur hcs (by omega) hcap hRI (by simp))
    have HH := hide hh
    have HK := hide hk
    have HC := hide hcur
    have HG := hide hG
    clear hI2 hcur hh hk hk12 htk hG
    go_wp2_with fail
    refine HWt.out.mono ?_
    rintro e w3 ⟨rfl, hI3, hR3, hk3⟩
    go_wp2_with fail
    go_end0
    exact ⟨rfl, out_of HS.out (by rw [List.append_nil]; exact HR.out) hcap hRG (Kept.drewN w 1) HG.out HH.out HK.out hI3 ⟨cur, HC.out, hR3⟩ hk3⟩

set_option maxHeartbeats 1000000 in
theorem writeWhole_no (I : Nat) (d buf err : Value) (k0 : Int) (hk : k0 < 0) (w : World) (hI : IB w I d buf k0 err) :
    Calls Try.prog 39 #[.pointer (some ⟨I, 0, none⟩)] w fun e w' => e = .returned (.bool false) ∧ w' = w := by
  have c2 := hI.c2
  clear hI
  go_enter Try.func39, Try.ntmps39
  go_wp2_with fail
  go_ret
  exact ⟨rfl, rfl⟩

set_option maxHeartbeats 1000000 in
theorem writeFull_whole (I R b cap : Nat) (bs gone held : List Int) (G : Option Nat) (err : Value) (w : World) (hS : S w I b bs G (.slice (some ⟨R, 0, none⟩) (gone.length + held.length) cap) gone.length err)
    (hr : Rw w R cap (U8 (gone ++ held))) (hcap : cap ≤ maxLen) (hRG : some R ≠ G) (hlim : bs.length + gone.length ≤ 1073741824) :
    Calls Try.prog 33 #[.pointer (some ⟨I, 0, none⟩)] w fun e w' => e = .returned (.tuple #[]) ∧ Out w w' I b R cap bs G gone held err := by
  have H := hide (writeWhole_yes I R b cap bs gone held G err w hS hr hcap hRG hlim)
  clear hS hr
  go_enter Try.func33, Try.ntmps33
  go_wp2_with fail
  refine H.out.mono ?_
  rintro e w2 ⟨rfl, ho⟩
  go_wp2_with fail
  go_end0
  exact ⟨rfl, ho⟩

set_option maxHeartbeats 1000000 in
theorem writeFull_part (I R b cap : Nat) (bs gone : List Int) (G : Option Nat) (err : Value) (w : World) (hS : S w I b bs G (.slice (some ⟨R, 0, none⟩) gone.length cap) (-1) err)
    (hr : Rw w R cap (U8 gone)) (hcap : cap ≤ maxLen) (hRG : some R ≠ G) (hlim : bs.length + gone.length ≤ 1073741824) :
    Calls Try.prog 33 #[.pointer (some ⟨I, 0, none⟩)] w fun e w' => e = .returned (.tuple #[]) ∧ Out w w' I b R cap bs G gone [] err := by
  have H := hide (writePart_any I R b cap bs gone G err (-1) w hS hr hcap hRG hlim)
  have HN := hide (writeWhole_no I _ _ err (-1) (by omega) w hS.ib)
  clear hS hr
  go_enter Try.func33, Try.ntmps33
  go_wp2_with fail
  refine HN.out.mono ?_
  rintro e w2 ⟨rfl, rfl⟩
  go_wp2_with fail
  refine H.out.mono ?_
  rintro e w2 ⟨rfl, ho⟩
  go_wp2_with fail
  go_end0
  exact ⟨rfl, ho⟩

end Go.Proofs.Qxb6612279a
