import Derived.Test.Qxb6612279aSinkA
namespace Go.Proofs.Qxb6612279a
open Go.RowKit
set_option linter.unusedVariables false

set_option maxRecDepth 100000 in
set_option maxHeartbeats 4000000 in
theorem grow_row (b g l cap n : Nat) (bs : List Value) (w : World) (h : Sk w b (.slice (some ⟨g, 0, none⟩) l cap)) (hr : Rw w g cap bs) (hl : bs.length = l)
    (h1 : ∀ v ∈ bs, v.oneCell' = true) (hn : 1 ≤ n) (hroom : cap - l < n) (hlim : l + n ≤ 1073741824) (hgb : g ≠ b) :
    Calls Try.prog 61 #[.pointer (some ⟨b, 0, none⟩), .int .i64 n] w fun e w' => e = .returned (.int .i64 l) ∧ ∃ N cap2, w.heap.size ≤ N ∧ Sk w' b (.slice (some ⟨N, 0, none⟩) (l + n) cap2) ∧ l + n ≤ cap2 ∧ cap2 ≤ maxLen ∧ Rw w' N cap2 bs ∧ w.grownBy w' (some b) := by
  obtain ⟨cur, hg, hcs, hlc0, htake⟩ := hr
  have hlc : l ≤ cap := by omega
  rw [hl] at htake
  have hnil : ∀ W, (binOp .eql 22 (.slice (some ⟨g, 0, none⟩) l cap) (.slice none 0 0)).run Try.prog W = .ok (.bool false) W := fun W => Lib.run_eql_slice_some_nil W _ _ _ Try.underlying22
  have hL := fun W h => len62 b (some ⟨g, 0, none⟩) l cap W h (by omega)
  have HL := hide hL
  clear hL
  have hT := fun W h => tryGrow_none b (some ⟨g, 0, none⟩) l cap n W h hlc (by unfold maxLen; omega) hroom
  have HT := hide hT
  clear hT
  have H := hide h
  clear h
  have HG := hide hg
  clear hg
  by_cases hl0 : l = 0
  all_goals
    first | have hb0 : ((l : Int) == 0) = true := by simpa using hl0 | have hb0 : ((l : Int) == 0) = false := by simpa using hl0
    clear hl0
    go_enter Try.func61, Try.ntmps61
    go_wp2_with fail
    refine (HL.out _ H.out).mono ?_
    rintro e W0 ⟨rfl, k, hW0⟩
    have hS0 : Sk W0 b (.slice (some ⟨g, 0, none⟩) l cap) := H.out.of_block (by rw [hW0]; rfl)
    have hg0 : W0.heap[g]? = some (.cells cur 5 (0, 0)) := by rw [hW0]; exact HG.out
    have c0 := hS0.c0
    have c1 := hS0.c1
    have f0 := hS0.fz 0
    have f1 := hS0.fz 1
    have HW0 := hide hW0
    have HS0 := hide hS0
    have HG0 := hide hg0
    clear hW0 hS0 hg0
    go_wp2_with fail
    refine (HT.out _ HS0.out).mono ?_
    rintro e w' ⟨rfl, rfl⟩
    go_wp2_with fail
    have hwn : IntKind.i64.wrap (n : Int) = n := by rw [IntKind.wrap_i64]; omega
    have hGS := fun W h => growSlice_row g l cap n cur W h hcs hlc hn (by omega) (by omega) (by rw [htake]; exact h1)
    have HGS := hide hGS
    clear hGS
    go_region_with (go_at_call 63; refine (HGS.out _ ?_).mono ?_; exact HG0.out; rintro e w2 ⟨cap2, cells, rfl, hN, hcsz, htk, hcap2, hcm2, hbel⟩; have hS2 := HS0.out.of_block (hbel.block b HS0.out.lt); have d0 := hS2.c0; have d1 := hS2.c1; have e0 := hS2.fz 0; have e1 := hS2.fz 1; have HS2 := hide hS2; clear hS2)
    all_goals go_wp2
    all_goals go_ret
    all_goals
      obtain ⟨r1, r2, r3, r4⟩ := grow_fin (n := n) (cap2 := cap2) (v := .slice (some ⟨g, 0, none⟩) l cap) HW0.out HS2.out hN hcsz (htk.trans htake) (by omega) hbel
      exact ⟨rfl, _, cap2, r1, r2, by omega, hcm2, r3, r4⟩

end Go.Proofs.Qxb6612279a
