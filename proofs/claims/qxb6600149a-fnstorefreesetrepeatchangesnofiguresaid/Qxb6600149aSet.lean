import Derived.Test.Qxb6600149aState
import Derived.Deep.RegionWith
import Derived.BigRegion
import Derived.Deep.DeepCutAuto
namespace Go.Proofs.Qxb6600149a
open Go.RowKit
set_option linter.unusedVariables false

/-- how long the three lists are -/
def Shape (T M S : List Int) : Prop := M.length = (T.length + 255) / 256 ∧ S.length = M.length ∧ T.length ≤ 65536

theorem cell_one_at {w : World} {k : Nat} (hk : w.heap.size = k) (x : Value) (t : TypeId) : ∀ j u, [x][j]? = some u → (w.alloc (.cells #[x] t)).cell? ((⟨k, 0, none⟩ : Addr).add j) = some u := by
  subst hk; exact cell_one_new w x t

theorem at_cell {w : World} {base s : Nat} {vt vm vs : Value} {T M S : List Int} {r : Int} (h : SF w base s vt vm vs T M S r) (o : Obj) :
    (w.alloc o).cell? ⟨s, 0, none⟩ = some vt ∧ (w.alloc o).cell? ⟨s, 1, none⟩ = some vm ∧ (w.alloc o).cell? ⟨s, 2, none⟩ = some vs :=
  ⟨(h.alloc o).c0, (h.alloc o).c1, (h.alloc o).c2⟩

theorem wrap_small (x : Int) (h0 : 0 ≤ x) (h1 : x < 1000000) : IntKind.i64.wrap x = x := by
  simp only [IntKind.wrap, IntKind.bits, IntKind.signed]; simp; omega

theorem set_same : ∀ (l : List Int) (k : Nat), l.set k (l.getD k 0) = l
  | [], _ => rfl
  | a :: l, 0 => rfl
  | a :: l, k + 1 => by simpa using set_same l k

/-- what set leaves -/
def Done (base s n : Nat) (t : Int) (vt vm vs : Value) (T M S : List Int) (r : Int) (w w' : World) : Prop :=
  ∃ vt' vm' vs' T1 M1 S1 q, Shape T1 M1 S1 ∧ n ≤ T1.length ∧ (n - 1) / 256 * 256 + q + 1 ≤ T1.length ∧ (n - 1) % 256 ≤ q ∧
    SF w' base s vt' vm' vs' (T1.set (n - 1) t) (M1.set ((n - 1) / 256) (liftV (M1.getD ((n - 1) / 256) 0) (topOf (fun j => (T1.set (n - 1) t).getD ((n - 1) / 256 * 256 + j) 0) q) (T1.getD (n - 1) 0) t)) (S1.set ((n - 1) / 256) (IntKind.u64.wrap (S1.getD ((n - 1) / 256) 0 + 1))) (if T1.getD (n - 1) 0 < t then IntKind.u64.wrap (r + 1) else r) ∧
    Below base w w' ∧ (n ≤ T.length → vt' = vt ∧ vm' = vm ∧ vs' = vs ∧ T1 = T ∧ M1 = M ∧ S1 = S ∧ ∀ k, ¬ Of s vt vm vs k → w'.heap[k]? = w.heap[k]?)

/-- what the lift leaves -/
def Lifted (base s i q : Nat) (t : Int) (vt vm vs : Value) (T M S : List Int) (r : Int) (w w' : World) : Prop :=
  SF w' base s vt vm vs (T.set i t) (M.set (i / 256) (liftV (M.getD (i / 256) 0) (topOf (fun j => (T.set i t).getD (i / 256 * 256 + j) 0) q) (T.getD i 0) t)) S r ∧ Below base w w' ∧ ∀ k', ¬ Of s vt vm vs k' → w'.heap[k']? = w.heap[k']?

theorem lift_at {base s i k q L gt gm ct cm : Nat} {t : Int} {vs : Value} {T M S : List Int} {r : Int} {w : World} (h : SF w base s (.slice (some ⟨gt, 0, none⟩) T.length ct) (.slice (some ⟨gm, 0, none⟩) M.length cm) vs T M S r) (hk : k = i / 256) (hi : i < T.length) (hM : k < M.length)
    (hL : L = q + 1) (hq : k * 256 + q + 1 ≤ T.length) (hT : T.length ≤ 65536) :
    Calls Try.prog 34 #[.pointer (some ⟨gm, k, none⟩), .slice (some ⟨gt, k * 256, none⟩) L (ct - k * 256), .int .i16 (T[i]'hi), .int .i16 t] (w.setCell ⟨gt, i, none⟩ (.int .i16 t)).drew
      fun e w' => e = .returned (.tuple #[]) ∧ Hid (Lifted base s i q t (.slice (some ⟨gt, 0, none⟩) T.length ct) (.slice (some ⟨gm, 0, none⟩) M.length cm) vs T M S r w w') := by
  subst hL hk
  have hF2 := (h.setT i t).drew
  have hF3 : SF (w.setCell ⟨gt, i, none⟩ (.int .i16 t)).drew base s (.slice (some ⟨gt, 0, none⟩) (T.set i t).length ct) (.slice (some ⟨gm, 0, none⟩) M.length cm) vs (T.set i t) M S r := by rw [List.length_set]; exact hF2
  have eT : T.getD i 0 = T[i]'hi := by simp [hi]
  have hb2 : Below base w (w.setCell ⟨gt, i, none⟩ (.int .i16 t)).drew := ((Below.refl _ _).setCell (h.t.lt gt rfl).1 _).drew
  have hk2 : ∀ k', ¬ Of s (.slice (some ⟨gt, 0, none⟩) T.length ct) (.slice (some ⟨gm, 0, none⟩) M.length cm) vs k' → (w.setCell ⟨gt, i, none⟩ (.int .i16 t)).drew.heap[k']? = w.heap[k']? := by
    intro k' hk'
    exact heap_setCell_other _ _ _ _ (by rintro rfl; exact hk' (.inr (.inl rfl)))
  have HL := lift34 gm (i / 256) gt (i / 256 * 256) q (ct - i / 256 * 256) (fun j => (T.set i t).getD (i / 256 * 256 + j) 0) (M.getD (i / 256) 0) (T.getD i 0) t (w.setCell ⟨gt, i, none⟩ (.int .i16 t)).drew (by omega) (fun j hj => (hF3.cellT (i / 256 * 256 + j) (by rw [List.length_set]; omega)).1) (hF2.cellM (i / 256) hM).1 (hF2.cellM (i / 256) hM).2
  rw [← eT]
  refine HL.mono ?_
  rintro e w' ⟨rfl, h1 | ⟨h1, hv⟩⟩
  · refine ⟨rfl, ?_⟩
    subst h1
    refine ⟨hF2.setM (i / 256) _, hb2.setCell (h.m.lt gm rfl).1 _, ?_⟩
    intro k' hk'
    rw [← hk2 k' hk']
    exact heap_setCell_other _ _ _ _ (by rintro rfl; exact hk' (.inr (.inr (.inl rfl))))
  · refine ⟨rfl, ?_⟩
    subst h1
    refine ⟨?_, hb2, hk2⟩
    rw [hv, set_same]
    exact hF2

theorem SF.appT' {w w1 : World} {base s : Nat} {vt vm vs v' : Value} {T M S : List Int} {r x : Int} (h : SF w base s vt vm vs T M S r) (o : Obj) (ho : w1.ownsRow base 44 1 v' (T.length + 1) (T.map (Value.int .i16) ++ [.int .i16 x])) (hg : (w.alloc o).grownBy w1 vt.ownBlock) (hl : v'.ownBlock = vt.ownBlock ∨ v'.ownBlock = some (w.alloc o).heap.size) :
    w1.cell? ⟨s, 0, none⟩ = some vt ∧ w1.frozen? ⟨s, 0, none⟩ = false ∧ SF (w1.setCell ⟨s, 0, none⟩ v') base s v' vm vs (T ++ [x]) M S r ∧ Below base w (w1.setCell ⟨s, 0, none⟩ v') := by
  have h' := h.alloc o
  have hst1 : w1.heap[s]? = some (.cells #[vt, vm, vs, .int .u64 r] 40 (0, 0)) := (hg.block s (heap_lt h'.st) (fun e => h'.ne_t s e.symm rfl)).trans h'.st
  have hA := h'.appT ho hg hl
  exact ⟨by simp [World.cell?, hst1], by simp [World.frozen?, hst1], hA.1, ((Below.refl base w).alloc (Nat.le_trans h.ge (Nat.le_of_lt (heap_lt h.st))) o).trans hA.2⟩

theorem SF.appM' {w w1 : World} {base s : Nat} {vt vm vs v' : Value} {T M S : List Int} {r x : Int} (h : SF w base s vt vm vs T M S r) (o : Obj) (ho : w1.ownsRow base 44 1 v' (M.length + 1) (M.map (Value.int .i16) ++ [.int .i16 x])) (hg : (w.alloc o).grownBy w1 vm.ownBlock) (hl : v'.ownBlock = vm.ownBlock ∨ v'.ownBlock = some (w.alloc o).heap.size) :
    w1.cell? ⟨s, 1, none⟩ = some vm ∧ w1.frozen? ⟨s, 1, none⟩ = false ∧ SF (w1.setCell ⟨s, 1, none⟩ v') base s vt v' vs T (M ++ [x]) S r ∧ Below base w (w1.setCell ⟨s, 1, none⟩ v') := by
  have h' := h.alloc o
  have hst1 : w1.heap[s]? = some (.cells #[vt, vm, vs, .int .u64 r] 40 (0, 0)) := (hg.block s (heap_lt h'.st) (fun e => h'.ne_m s e.symm rfl)).trans h'.st
  have hA := h'.appM ho hg hl
  exact ⟨by simp [World.cell?, hst1], by simp [World.frozen?, hst1], hA.1, ((Below.refl base w).alloc (Nat.le_trans h.ge (Nat.le_of_lt (heap_lt h.st))) o).trans hA.2⟩

theorem SF.appS' {w w1 : World} {base s : Nat} {vt vm vs v' : Value} {T M S : List Int} {r x : Int} (h : SF w base s vt vm vs T M S r) (o : Obj) (ho : w1.ownsRow base 38 1 v' (S.length + 1) (S.map (Value.int .u64) ++ [.int .u64 x])) (hg : (w.alloc o).grownBy w1 vs.ownBlock) (hl : v'.ownBlock = vs.ownBlock ∨ v'.ownBlock = some (w.alloc o).heap.size) :
    w1.cell? ⟨s, 2, none⟩ = some vs ∧ w1.frozen? ⟨s, 2, none⟩ = false ∧ SF (w1.setCell ⟨s, 2, none⟩ v') base s vt vm v' T M (S ++ [x]) r ∧ Below base w (w1.setCell ⟨s, 2, none⟩ v') := by
  have h' := h.alloc o
  have hst1 : w1.heap[s]? = some (.cells #[vt, vm, vs, .int .u64 r] 40 (0, 0)) := (hg.block s (heap_lt h'.st) (fun e => h'.ne_s s e.symm rfl)).trans h'.st
  have hA := h'.appS ho hg hl
  exact ⟨by simp [World.cell?, hst1], by simp [World.frozen?, hst1], hA.1, ((Below.refl base w).alloc (Nat.le_trans h.ge (Nat.le_of_lt (heap_lt h.st))) o).trans hA.2⟩

set_option maxRecDepth 100000 in
set_option maxHeartbeats 4000000 in
theorem set33 (base s n : Nat) (t : Int) (vt vm vs : Value) (T M S : List Int) (r : Int) (w : World) (h : SF w base s vt vm vs T M S r) (hsh : Shape T M S) (hn1 : 1 ≤ n) (hn2 : n ≤ 65536) :
    Calls Try.prog 33 #[.pointer (some ⟨s, 0, none⟩), .int .u32 n, .int .i16 t] w fun e w' => e = .returned (.tuple #[]) ∧ Done base s n t vt vm vs T M S r w w' := by
  obtain ⟨i44, hi44, hz44, hs44, hb44⟩ := info_parts info44
  obtain ⟨i38, hi38, hz38, hs38, hb38⟩ := info_parts info38
  have HH := hide h
  clear h
  go_enter Try.func33, Try.ntmps33
  go_wp2_with fail
  go_loopw [9] (fun _ wr => ∃ vt' vm' vs' T' M' S', SF wr base s vt' vm' vs' T' M' S' r ∧ Shape T' M' S' ∧ Below base w wr ∧ (T'.length ≤ n ∨ T' = T) ∧ (n ≤ T.length → vt' = vt ∧ vm' = vm ∧ vs' = vs ∧ T' = T ∧ M' = M ∧ S' = S ∧ wr = w)) (fun _ wr => 65536 - (match wr.cell? ⟨s, 0, none⟩ with | some (.slice _ l _) => l | _ => 0))
  case atStart => exact ⟨vt, vm, vs, T, M, S, HH.out, hsh, Below.refl _ _, .inr rfl, fun _ => ⟨rfl, rfl, rfl, rfl, rfl, rfl, rfl⟩⟩
  case round =>
    obtain ⟨vt', vm', vs', T', M', S', hF, hsh', hbel, hTn, hex⟩ := hrel
    obtain ⟨at', ct', rfl⟩ := own_shape hF.t
    obtain ⟨am', cm', rfl⟩ := own_shape hF.m
    obtain ⟨as', cs', rfl⟩ := own_shape hF.s
    have c0 := hF.c0
    have c1 := hF.c1
    have c2 := hF.c2
    have f0 := hF.fz 0
    have f1 := hF.fz 1
    have f2 := hF.fz 2
    have HF := hide hF
    have HSH := hide hsh'
    have HTN := hide hTn
    have HEX := hide hex
    have hT6 : T'.length ≤ 65536 := hsh'.2.2
    clear hF hsh' hTn hex
    by_cases hlt : T'.length < n
    · go_upto_if 23 with fail
      go_cut [] (fun wx => ∃ vm1 vs1 M1 S1, SF wx base s (.slice at' T'.length ct') vm1 vs1 T' M1 S1 r ∧ M1.length = T'.length / 256 + 1 ∧ S1.length = M1.length ∧ Below base wr wx)
      case first =>
        by_cases hmod : T'.length % 256 = 0
        · have hb : ((T'.length : Int) % 256 == 0) = true := by rw [beq_iff_eq]; omega
          have hsz : base ≤ wr.heap.size := Nat.le_trans HF.out.ge (Nat.le_of_lt (heap_lt HF.out.st))
          have hML : M'.length ≤ 65536 := by have := HSH.out.1; omega
          have hSL : S'.length ≤ 65536 := by have := HSH.out.1; have := HSH.out.2.1; omega
          have HMOD := hide hmod
          clear hmod
          go_wp2_with (at_builtin; refine wpList_append_own_at _ rfl (.tmp 28) (.tmp 29) 32 rfl base 44 i44 (.int .i16 0) 1 2 Try.underlying32 hi44 hz44 hs44 hb44 rfl (by decide) _ _ _ rfl (HF.out.m.alloc _) ⟨wr.heap.size, 0, none⟩ 1 1 [.int .i16 32767] rfl rfl (cell_one_new _ _ _) (ints_oneCell .i16 [32767]) (by unfold maxLen; omega) (by omega) (by simp; omega) ?_; intro v1 w1 ho hg _ hl; refine Hid.out ?_)
          obtain ⟨a1, b1, rfl⟩ := own_shape ho
          obtain ⟨hc1, hf1, hA, hbA⟩ := HF.out.appM' _ ho hg hl
          have c2' := hA.c2
          have f2' := hA.fz 2
          have hsz2 : base ≤ w1.heap.size := by have := Nat.le_trans hA.ge (Nat.le_of_lt (heap_lt hA.st)); rwa [World.size_setCell] at this
          have HA := hide hA
          have HBA := hide hbA
          clear hA hbA ho hg hl
          refine hide ?_
          go_wp2_with (at_builtin; refine wpList_append_own_at _ rfl (.tmp 37) (.tmp 38) 37 rfl base 38 i38 (.int .u64 0) 1 8 Try.underlying37 hi38 hz38 hs38 hb38 rfl (by decide) _ _ _ rfl (HA.out.s.alloc _) ⟨w1.heap.size, 0, none⟩ 1 1 [.int .u64 0] rfl rfl (cell_one_at (World.size_setCell ..) _ _) (ints_oneCell .u64 [0]) (by unfold maxLen; omega) (by omega) (by simp; omega) ?_; intro v2 w2 ho hg _ hl; refine Hid.out ?_)
          obtain ⟨a2, b2, rfl⟩ := own_shape ho
          obtain ⟨hc2, hf2, hB, hbB⟩ := HA.out.appS' _ ho hg hl
          have HB := hide hB
          have HBB := hide hbB
          clear hB hbB ho hg hl
          refine hide ?_
          go_wp2_with fail
          go_meet
          exact ⟨_, _, _, _, HB.out, by have := HSH.out.1; have := HMOD.out; simp; omega, by have := HSH.out.2.1; simp; omega, HBA.out.trans HBB.out⟩
        · have hb : ((T'.length : Int) % 256 == 0) = false := by rw [beq_eq_false_iff_ne]; omega
          go_wp2_with fail
          go_meet
          exact ⟨_, _, M', S', HF.out, by have := HSH.out.1; omega, HSH.out.2.1, Below.refl _ _⟩
      case rest =>
        obtain ⟨vm1, vs1, M1, S1, hF1, hM1, hS1, hb1⟩ := hcut
        obtain ⟨am1, cm1, rfl⟩ := own_shape hF1.m
        obtain ⟨as1, cs1, rfl⟩ := own_shape hF1.s
        have c0 := hF1.c0
        have f0 := hF1.fz 0
        have hsz : base ≤ wc.heap.size := Nat.le_trans hF1.ge (Nat.le_of_lt (heap_lt hF1.st))
        have HF1 := hide hF1
        have HB1 := hide hb1
        clear hF1 hb1
        go_wp2_with (at_builtin; refine wpList_append_own_at _ rfl (.tmp 46) (.tmp 47) 32 rfl base 44 i44 (.int .i16 0) 1 2 Try.underlying32 hi44 hz44 hs44 hb44 rfl (by decide) _ _ _ rfl (HF1.out.t.alloc _) ⟨wc.heap.size, 0, none⟩ 1 1 [.int .i16 32767] rfl rfl (cell_one_new _ _ _) (ints_oneCell .i16 [32767]) (by unfold maxLen; omega) (by omega) (by simp; omega) ?_; intro v1 w1 ho hg _ hl; refine Hid.out ?_)
        obtain ⟨a1, b1, rfl⟩ := own_shape ho
        obtain ⟨hc1, hf1, hA, hbA⟩ := HF1.out.appT' _ ho hg hl
        obtain ⟨gm, cm, hmeq, hmle, hmmx⟩ := own_addr hA.m (by omega)
        cases hmeq
        obtain ⟨k, hk⟩ : ∃ k, M1.length = k + 1 := ⟨T'.length / 256, hM1⟩
        have d1 : (w1.setCell ⟨s, 0, none⟩ (.slice a1 (T'.length + 1) b1)).cell? ⟨s, 1, none⟩ = some (.slice (some ⟨gm, 0, none⟩) (k + 1) cm1) := by rw [hA.c1, hk]
        have dm := (hA.cellM k (by omega)).1
        have df := (hA.cellM k (by omega)).2
        have hk6 : k < 300 := by omega
        have HA := hide hA
        have HBA := hide hbA
        clear hbA ho hg hl hA
        refine hide ?_
        go_wp2_with fail
        go_region
        refine ⟨?_, ?measure⟩
        · (repeat apply Exists.intro)
          refine ⟨⟨_, _, _, T' ++ [32767], M1.set k 32767, S1, (HA.out.setM k 32767).drew, ?_, ?_, .inl ?_, ?_⟩, rfl⟩
          · refine ⟨?_, ?_, ?_⟩
            · simp; omega
            · simp; omega
            · simp; omega
          · exact (((hbel.trans HB1.out).trans HBA.out).setCell (HA.out.m.lt gm rfl).1 _).drew
          · simp; omega
          · intro h0
            have := (HEX.out h0).2.2.2.1
            rw [this] at hlt
            omega
        case measure =>
          have e1 : ((w1.setCell ⟨s, 0, none⟩ (.slice a1 (T'.length + 1) b1)).setCell ⟨gm, k, none⟩ (.int .i16 32767)).drew.cell? ⟨s, 0, none⟩ = some (.slice a1 (T'.length + 1) b1) := (HA.out.setM k 32767).drew.c0
          have e2 := HF.out.c0
          rw [e1, e2]
          simp only
          omega
    · go_upto_region 6 with fail
      obtain ⟨i, rfl⟩ : ∃ i, n = i + 1 := ⟨n - 1, by omega⟩
      obtain ⟨gt, ctt, hteq, htle, htmx⟩ := own_addr HF.out.t (by omega)
      cases hteq
      obtain ⟨k, hk⟩ : ∃ k, k = i / 256 := ⟨_, rfl⟩
      have hq : Int.tdiv (i : Int) 256 = (k : Int) := by rw [hk]; exact (Int.natCast_ediv i 256).symm ▸ (Int.tdiv_eq_ediv_of_nonneg (by omega))
      have hq' : (i : Int) / 256 = (k : Int) := by rw [hk]; omega
      have hi : i < T'.length := by omega
      have ct := HF.out.cellT i hi
      have d0 := ct.1
      have d0f := ct.2
      have HK := hide hk
      clear hk
      go_upto_region 10 with fail
      have hk := HK.out
      have hF2 := HF.out.setT i t
      obtain ⟨gm, cmm, hmeq, hmle, hmmx⟩ := own_addr HF.out.m (by have := HSH.out.1; omega)
      cases hmeq
      have hkM : k < M'.length := by have := HSH.out.1; omega
      have m1 := hF2.c1
      have m0 := hF2.c0
      have mk := (hF2.cellM k hkM).1
      have mf := (hF2.cellM k hkM).2
      clear hF2
      obtain ⟨e, q, hq1, hq2, hL, hmin⟩ : ∃ e q : Nat, k * 256 + q + 1 ≤ T'.length ∧ i % 256 ≤ q ∧ e = k * 256 + q + 1 ∧ (if ((k : Int) + 1) * 256 < (T'.length : Int) then ((k : Int) + 1) * 256 else (T'.length : Int)) = (e : Int) := by
        by_cases hc : (k + 1) * 256 < T'.length
        · refine ⟨(k + 1) * 256, 255, by omega, by omega, by omega, ?_⟩
          rw [if_pos (by omega)]; omega
        · refine ⟨T'.length, T'.length - k * 256 - 1, by omega, by omega, by omega, ?_⟩
          rw [if_neg (by omega)]
      have hkI : (k : Int) < (M'.length : Int) := by omega
      have hk0 : (0 : Int) ≤ (k : Int) := by omega
      have hk1 : (0 : Int) ≤ (k : Int) * 256 := by omega
      have hk300 : k < 300 := by omega
      have hk2 : (k : Int) * 256 ≤ (e : Int) := by omega
      have hk3 : k * 256 ≤ e := by omega
      have he3 : e ≤ ct' := by omega
      have he4 : (e : Int) ≤ (ct' : Int) := by omega
      have hne : ¬ (ct' = k * 256) := by omega
      have hw0 : IntKind.i64.wrap ((k : Int) + 1) = (k : Int) + 1 := wrap_small _ (by omega) (by omega)
      have hw1 : IntKind.i64.wrap ((k : Int) * 256) = (k : Int) * 256 := wrap_small _ (by omega) (by omega)
      have hw2 : IntKind.i64.wrap (((k : Int) + 1) * 256) = ((k : Int) + 1) * 256 := wrap_small _ (by omega) (by omega)
      have ht1 : ((k : Int) * 256).toNat = k * 256 := by omega
      have HL := hide (lift_at (t := t) (k := k) (L := e - k * 256) (q := q) HF.out hk hi hkM (by omega) hq1 hT6)
      have HQ := hide (And.intro hq1 hq2)
      clear hk hq1 hq2 hL
      go_cut [] (fun wx => Lifted base s i q t (.slice (some ⟨gt, 0, none⟩) T'.length ct') (.slice (some ⟨gm, 0, none⟩) M'.length cm') (.slice as' S'.length cs') T' M' S' r wr wx)
      case first =>
        go_region_with (go_at_call 34; refine HL.out.mono ?_; rintro e w' ⟨rfl, hR⟩)
        all_goals (go_wp2_with fail; go_meet; exact hR.out)
      case rest =>
        obtain ⟨hF3, hb3, hfr⟩ := hcut
        obtain ⟨gs, css, hseq, hsle, hsmx⟩ := own_addr hF3.s (by have := HSH.out.2.1; omega)
        cases hseq
        have hkS : k < S'.length := by have := HSH.out.2.1; omega
        have hkJ : (k : Int) < (S'.length : Int) := by omega
        obtain ⟨sv, hsv⟩ : ∃ sv, sv = S'.getD k 0 := ⟨_, rfl⟩
        have sk := hF3.cellS k hkS
        rw [← hsv] at sk
        have sk1 := sk.1
        have sk2 := sk.2
        have c2 := hF3.c2
        obtain ⟨sw, hsw⟩ : ∃ sw, sw = IntKind.u64.wrap (sv + 1) := ⟨_, rfl⟩
        have hF4 := hF3.setS k sw
        have c3 := hF4.c3
        have f3 := hF4.fz 3
        have HF4 := hide hF4
        have HB3 := hide (hb3.setCell (p := ⟨gs, k, none⟩) (hF3.s.lt gs rfl).1 (.int .u64 sw))
        have HFR : ∀ k', ¬ Of s (.slice (some ⟨gt, 0, none⟩) T'.length ct') (.slice (some ⟨gm, 0, none⟩) M'.length cm') (.slice (some ⟨gs, 0, none⟩) S'.length cs') k' → (wc.setCell ⟨gs, k, none⟩ (.int .u64 sw)).heap[k']? = wr.heap[k']? := by
          intro k' hk'
          rw [heap_setCell_other _ _ _ _ (by rintro rfl; exact hk' (.inr (.inr (.inr rfl))))]
          exact hfr k' hk'
        replace HFR := hide HFR
        have HSV := hide hsv
        have HSW := hide hsw
        have hsw' := hsw.symm
        clear hF3 hb3 hfr hF4 sk hsv hsw
        obtain ⟨was, hwas⟩ : ∃ was, was = T'[i] := ⟨_, rfl⟩
        rw [← hwas]
        have HWAS := hide hwas
        clear hwas
        by_cases htw : was < t
        · go_wp2_with fail
          go_end0
          refine ⟨rfl, ?_⟩
          have hk := HK.out
          have e1 : sw = IntKind.u64.wrap (S'.getD k 0 + 1) := by rw [HSW.out, HSV.out]
          have hr : (if T'.getD (i + 1 - 1) 0 < t then IntKind.u64.wrap (r + 1) else r) = IntKind.u64.wrap (r + 1) := if_pos (by
            have : T'.getD i 0 = was := by rw [HWAS.out]; simp [hi]
            show T'.getD i 0 < t
            omega)
          have hz := HF4.out.setR (IntKind.u64.wrap (r + 1))
          refine ⟨.slice (some ⟨gt, 0, none⟩) T'.length ct', .slice (some ⟨gm, 0, none⟩) M'.length cm', .slice (some ⟨gs, 0, none⟩) S'.length cs', T', M', S', q, HSH.out, by omega, by have := HQ.out.1; rw [hk] at this; exact this, HQ.out.2, ?_, ?_, ?_⟩
          · rw [hr]
            subst hk
            rw [e1] at hz ⊢
            exact hz
          · exact (hbel.trans HB3.out).setCell (p := ⟨s, 3, none⟩) HF4.out.ge _
          · intro h0
            obtain ⟨a, b, c, d, e, f, g⟩ := HEX.out h0
            refine ⟨a, b, c, d, e, f, fun k' hk' => ?_⟩
            rw [← a, ← b, ← c] at hk'
            rw [← g, heap_setCell_other _ _ _ _ (by rintro rfl; exact hk' (.inl rfl))]
            exact HFR.out k' hk'
        · go_wp2_with fail
          go_end0
          refine ⟨rfl, ?_⟩
          have hk := HK.out
          have e1 : sw = IntKind.u64.wrap (S'.getD k 0 + 1) := by rw [HSW.out, HSV.out]
          have hr : (if T'.getD (i + 1 - 1) 0 < t then IntKind.u64.wrap (r + 1) else r) = r := if_neg (by
            have : T'.getD i 0 = was := by rw [HWAS.out]; simp [hi]
            show ¬ T'.getD i 0 < t
            omega)
          have hz := HF4.out
          refine ⟨.slice (some ⟨gt, 0, none⟩) T'.length ct', .slice (some ⟨gm, 0, none⟩) M'.length cm', .slice (some ⟨gs, 0, none⟩) S'.length cs', T', M', S', q, HSH.out, by omega, by have := HQ.out.1; rw [hk] at this; exact this, HQ.out.2, ?_, ?_, ?_⟩
          · rw [hr]
            subst hk
            rw [e1] at hz ⊢
            exact hz
          · exact hbel.trans HB3.out
          · intro h0
            obtain ⟨a, b, c, d, e, f, g⟩ := HEX.out h0
            refine ⟨a, b, c, d, e, f, fun k' hk' => ?_⟩
            rw [← a, ← b, ← c] at hk'
            rw [← g]
            exact HFR.out k' hk'

end Go.Proofs.Qxb6600149a
