import Derived.Test.Qxb6609323aSize
namespace Go.Proofs.Qxb6609323a
open Go.RowKit
set_option linter.unusedVariables false

theorem wrap_small (x : Int) (h0 : -9000000000000000000 ≤ x) (h1 : x ≤ 9000000000000000000) : IntKind.i64.wrap x = x := by
  simp only [IntKind.wrap, IntKind.bits, IntKind.signed]; simp; omega

def zeros : Array Value := Array.replicate 128 (.int .u8 0)
theorem zero69 (w : World) : (zeroValue 69).run Try.prog w = .ok (.agg zeros) w := by kernel_rfl

theorem frame25 (kind owner : Int) (s : ByteArray) (w : World) :
    Calls Try.prog 25 #[.agg #[.int .u8 kind, .int .i64 owner, .string s]] w fun e w' => e = .returned (frm kind owner s (.slice none 0 0)) ∧ Below w.heap.size w w' := by
  go_enter Try.func25, Try.ntmps25
  go_wp2
  refine bodyPost_ret (v := frm kind owner s (.slice none 0 0)) (by simp [frm, results, Try.results25, go_sem]) rfl ⟨rfl, ?_⟩
  exact (((Below.refl _ _).alloc (Nat.le_refl _) _).alloc (by simp) _)

set_option maxRecDepth 100000 in
set_option maxHeartbeats 4000000 in
theorem fsize23 (kind owner : Int) (s : ByteArray) (va : Option Addr) (vl vc : Nat) (w : World) (hk : 0 ≤ kind) (hs : s.size ≤ 1048576) (hv : vl ≤ 1048576) (hkv : (kind = 0 ∨ kind = 1) ∨ vl = 0) :
    Calls Try.prog 23 #[frm kind owner s (.slice va vl vc)] w fun e w' => e = .returned (.int .i64 (fsz kind owner s.size vl : Int)) ∧ Below w.heap.size w w' := by
  have hz := zero69
  have hbuf : Buf (w.heap.size + 1) ((w.alloc (.cells #[.int .i64 owner, .string s, .int .u8 kind, .slice va vl vc] 55 (0, 0))).alloc (.cells zeros 69 (0, 0))).drew (.slice (some ⟨w.heap.size + 1, 0, none⟩) 0 128) 0 := by
    refine ⟨w.heap.size + 1, 128, zeros, 69, rfl, Nat.le_refl _, ?_, by decide, by unfold maxLen; decide, rfl⟩
    have h := Array.getElem?_push_size (xs := (w.alloc (.cells #[.int .i64 owner, .string s, .int .u8 kind, .slice va vl vc] 55 (0, 0))).heap) (x := Obj.cells zeros 69 (0, 0))
    simp only [World.size_alloc] at h
    exact h
  have hH := head28 (w.heap.size + 1) 0 _ kind owner s va vl vc _ hbuf (by simp) (by omega) hk hs hv
  have hbox : ((w.alloc (.cells #[.int .i64 owner, .string s, .int .u8 kind, .slice va vl vc] 55 (0, 0))).alloc (.cells zeros 69 (0, 0))).drew.heap[w.heap.size]? = some (.cells #[.int .i64 owner, .string s, .int .u8 kind, .slice va vl vc] 55 (0, 0)) := by
    refine (Below.heap_alloc _ _ _ (by simp)).trans ?_
    exact Array.getElem?_push_size
  have hne : (Value.slice (some ⟨w.heap.size + 1, 0, none⟩) 0 128).ownBlock ≠ some w.heap.size := by
    intro e
    simp [Value.ownBlock] at e
  have hl1 := ulen_le (uo_lt owner)
  have hl2 := ulen_le (x := s.size) (by omega)
  have hl3 := ulen_le (x := vl) (by omega)
  obtain ⟨hd, hhd⟩ : ∃ h, 0 + (1 + ulen (uo owner) + ulen s.size + s.size + (if kind = 0 ∨ kind = 1 then ulen vl else 0)) = h := ⟨_, rfl⟩
  rw [hhd] at hH
  obtain ⟨f, hf⟩ : ∃ f, fsz kind owner s.size vl = f := ⟨_, rfl⟩
  have hfd : hd + vl = f := by
    rw [← hf, ← hhd]
    unfold fsz
    rcases hkv with h | h
    · rw [if_pos h, if_pos h]; omega
    · subst h
      split
      · omega
      · omega
  have hbd : hd ≤ 2000000 := by
    rw [← hhd]
    split <;> omega
  rw [hf]
  have hw : IntKind.i64.wrap ((hd : Int) + (vl : Int)) = (hd : Int) + (vl : Int) := wrap_small _ (by omega) (by omega)
  have HH := hide hH
  have HBX := hide (And.intro hbox hne)
  clear hH hbox hne hhd hf hbuf hl1 hl2 hl3 hkv
  unfold frm at HH ⊢
  go_enter Try.func23, Try.ntmps23
  go_wp2_with fail
  go_region_with (go_at_call 28; refine HH.out.mono ?_; rintro e w' ⟨v', rfl, hb, hg⟩; obtain ⟨g', c', rfl⟩ := hb.shape; obtain ⟨p0, p1, p2, p3⟩ := cells4 (hg.box HBX.out.1 HBX.out.2).1)
  all_goals
    go_wp2_with fail
    go_ret
    refine ⟨?_, ?_⟩
    · subst hfd
      first | rfl | (simp [Act.put]; done) | (simp [Act.put, hw]; done)
    · exact ((((Below.refl w.heap.size w).alloc (Nat.le_refl _) _).alloc (by simp) _).drew).trans (hg.below (by simp; omega) (fun k e => by simp [Value.ownBlock] at e; omega))

end Go.Proofs.Qxb6609323a
