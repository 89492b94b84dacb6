import Derived.Test.Qxb6609323aLq
namespace Go.Proofs.Qxb6609323a
open Go.RowKit Go.Maps Go.WideElems
open Go.ChangeMaps (setBlock modify_eq_set)
set_option linter.unusedVariables false

theorem Lp.w4 {W0 w3 w4 : World} {base pb pw clk cb : Nat} {vw : Value} {F : List Fr} {m mb : Option Nat} {L0 Lb Lw : List En} {z0 room : Int} (h : Lp W0 w3 base pb pw vw F m L0 clk z0 room mb Lb cb Lw)
    (hpw : ∀ j, Bo pw vw m j → j < W0.heap.size) (hd : ¬ Bo pw vw m pb) (hK4 : Keep (Bo pb (.slice none 0 0) mb) w3 w4) : Bt w4 base pw vw F m Lw clk (z0 - Wt szk Lb) := by
  refine h.w.keep hK4 ?_
  rintro j hj (h1 | h1 | h1)
  · exact hd (h1 ▸ hj)
  · cases h1
  · have := h.mb' j h1
    have := hpw j hj
    omega

theorem Bt.newRow {wr w2 : World} {base p clk : Nat} {vw vw' : Value} {F F' : List Fr} {m : Option Nat} {L : List En} {z : Int} (h : Bt wr base p vw F m L clk z) (hK : Keep (fun k => vw.ownBlock = some k) wr w2) (hrow : w2.ownsRow base 55 4 vw' F'.length (cellsOf F')) : Bt (w2.setCell ⟨p, 0, none⟩ vw') base p vw' F' m L clk z := by
  have hst : w2.heap[p]? = some (.cells #[vw, .map m, .int .i64 z] 47 (0, 0)) := (hK.block p (h.lt p (.inl rfl)).2 h.p_ne_w).trans h.st
  refine ⟨heap_setCell_same w2 p 0 _ _ vw' hst, h.ge, own4_of_block hrow (fun g e => Below.heap_setCell w2 _ _ g (fun e' => ?_)), h.mno, fun b e => ⟨(h.mso b e).1, ?_⟩⟩
  · obtain ⟨cur, h1⟩ := own_row hrow e
    have e2 : g = p := e'
    rw [e2, hst] at h1
    cases h1
  · exact (h.mso b e).2.same ((Below.heap_setCell w2 _ _ b (fun e' => h.p_ne_m (e.trans (congrArg some e')))).trans (hK.block b (h.lt b (.inr (.inr e))).2 (h.w_ne_m e)))

theorem wf8 {k : Int} (h : (Lit.int .u8 k).wf = true) : 0 ≤ k := by
  have e : IntKind.u8.min = 0 := rfl
  simp [Lit.wf] at h
  omega

theorem wrap_fit (x : Int) (h0 : -9223372036854775808 ≤ x) (h1 : x ≤ 9223372036854775807) : IntKind.i64.wrap x = x := by
  simp only [IntKind.wrap, IntKind.bits, IntKind.signed]; simp; omega

/-- what take makes -/
structure Took (w w' : World) (base pb pw : Nat) (vw : Value) (F : List Fr) (m : Option Nat) (L : List En) (clk : Nat) (room : Int) (F1 F2 : List Fr) (vb vw' : Value) (mb m' : Option Nat) (Lb Lw : List En) (cb clk' : Nat) : Prop where
  cut : F = F1 ++ F2
  b : Bt w' base pb vb F1 mb Lb cb (fsum F1 + Wt szk Lb)
  ww : Bt w' base pw vw' F2 m' Lw clk' (fsum F2 + Wt szk Lw)
  sum : ∀ g, Wt g Lb + Wt g Lw = Wt g L
  pb' : Pos Lb
  pw' : Pos Lw
  some' : F ≠ [] ∨ L ≠ [] → F1 ≠ [] ∨ Lb ≠ []
  fit : fsum F1 + Wt szk Lb ≤ room ∨ (Lb = [] ∧ F1.length ≤ 1)
  nm : ∀ e ∈ Lw, e.s.size ≤ 1048576 ∧ szk e.kk < room
  keep : Keep (fun k => k = pb ∨ Bo pw vw m k) w w'

set_option maxRecDepth 100000 in
set_option maxHeartbeats 8000000 in
theorem take19b (base pb pw clk cb : Nat) (vw : Value) (F : List Fr) (m : Option Nat) (L : List En) (z room : Int) (w : World) (hb : Bt w base pb (.slice none 0 0) [] none [] cb 0) (hw : Bt w base pw vw F m L clk z) (hd : ¬ Bo pw vw m pb) (hz : room < z)
    (hr0 : -9223372036854775808 ≤ room) (hr1 : room ≤ 9223372036854775807) (hL : Pos L) (hzt : z = fsum F + Wt szk L) (hz1 : z ≤ 1048576) (hnm : ∀ e ∈ L, e.s.size ≤ 1048576 ∧ szk e.kk < room) (hFo : ∀ f ∈ F, FOk f) (hFn : F.length ≤ 100000) :
    Calls Try.prog 19 #[.pointer (some ⟨pb, 0, none⟩), .pointer (some ⟨pw, 0, none⟩), .int .i64 room] w fun e w' => e = .returned (.tuple #[]) ∧ ∃ F1 F2 vb vw' mb m' Lb Lw cb' clk', Took w w' base pb pw vw F m L clk room F1 F2 vb vw' mb m' Lb Lw cb' clk' := by
  have hB0 : Wt szk L ≤ 1048576 := by have := fsum_nonneg F; omega
  have hz0 : 0 ≤ z := by have := fsum_nonneg F; have := Wt_nonneg (fun q => by have := szk_pos q; omega) (g := szk) hL; omega
  have HFO := hide (And.intro hFo (And.intro hFn hzt))
  clear hFo hFn hzt
  have hpb : pb < w.heap.size := (hb.lt pb (.inl rfl)).2
  have hpw : ∀ k, Bo pw vw m k → k < w.heap.size := fun k hk => (hw.lt k hk).2
  have hbase : base ≤ w.heap.size := Nat.le_trans hb.ge (Nat.le_of_lt hpb)
  have w1 := hw.c1
  have w2 := hw.c2
  have HB := hide hb
  have HW := hide hw
  have HD := hide hd
  have HP := hide hpw
  have HL := hide (And.intro hL (And.intro hB0 hnm))
  clear hb hw hd hpw hL hB0 hnm
  go_enter Try.func19, Try.ntmps19
  go_upto_if 17 with fail
  go_cut [] (fun wx => wx = w)
  case first =>
    go_wp2_with fail
    go_meet
    rfl
  case rest => 
    have hcut' := hcut.symm
    subst hcut'
    clear hcut
    go_step
    go_step
    go_cut [] (fun wx => ∃ mb Lb cb Lw, Lp w wx base pb pw vw F m L clk z room mb Lb cb Lw ∧ (L ≠ [] → Lb ≠ []))
    case first =>
      have hLp0 : Lp w w base pb pw vw F m L clk z room none [] cb L := ⟨HB.out, by rw [Wt_nil, Int.sub_zero]; exact HW.out, fun g => by rw [Wt_nil]; omega, (fun e he => by cases he), HL.out.1, .inl rfl, HL.out.2.2, (fun x e => by cases e), Keep.refl _ _⟩
      cases m with
      | none =>
        have hrg : ∀ W : World, (Instr.range 45 (.map none)).run Try.prog W = _ := fun W => run_range_nilMap W 45 61 3 Try.underlying45
        have hL0 : L = [] := HW.out.mno rfl
        have HLP := hide hLp0
        clear hLp0
        go_wp2_with fail
        go_loopw [] (fun wr => wr = w.alloc (.mapIter none 0 #[] 0)) (fun wr => 0)
        case atStart => rfl
        case round =>
          subst hrel
          have hnx := run_next_nilMap (P := Try.prog) w 0 0 0 #[]
          go_wp2_with fail
          go_meet
          exact ⟨none, [], cb, L, HLP.out.move hpb HP.out (Nat.le_refl _) (by simp) (Keep.of_below ((Below.refl _ _).alloc (Nat.le_refl _) _)), fun h => absurd hL0 h⟩
      | some bw =>
        obtain ⟨ob, hrun, hR0⟩ := (HW.out.mso bw rfl).2.range
        have HLP := hide (hLp0.move hpb HP.out (Nat.le_refl _) (by simp) (Keep.of_below ((Below.refl _ _).alloc (Nat.le_refl _) ob)))
        have HR0 := hide hR0
        clear hLp0 hR0
        go_wp2_with fail
        go_loopw [] (fun wr => ∃ mb Lb cb Lw seen, Lp w wr base pb pw vw F (some bw) L clk z room mb Lb cb Lw ∧ Rg wr bw w.heap.size Lw clk seen ∧ (Lb = [] → Lw = L ∧ seen = #[]) ∧ mb ≠ some w.heap.size) (fun wr => wr.rangeLeft bw w.heap.size)
        case atStart => exact ⟨none, [], cb, L, #[], HLP.out, HR0.out, fun _ => ⟨rfl, rfl⟩, by simp⟩
        case round =>
          obtain ⟨mb, Lb, cb', Lw, seen, hLp, hRg, hno, hmr⟩ := hrel
          go_wp2_with (at_next; refine wpList_next_mp rfl (.tmp 32) rfl bw w.heap.size clk seen Lw rfl (hLp.w.mso bw rfl).2 hRg ?_ ?_)
          · intro hun
            go_wp2_with fail
            go_meet
            refine ⟨mb, Lb, cb', Lw, hLp, fun hne hlb => hne ?_⟩
            obtain ⟨rfl, rfl⟩ := hno hlb
            unfold un at hun
            rw [List.countP_eq_zero] at hun
            cases Lw with
            | nil => rfl
            | cons x xs => exact absurd (by simp) (hun x.born (by simp))
          · intro e w1 he hse hRg1 hMp1 hk1 hs1 hen
            have hLp1 := hLp.move hpb HP.out (Nat.le_refl _) hmr hk1
            have hok := hMp1.ok e he
            have hnm := hLp.nm e he
            have hec := hLp.pw' e he
            have HHR := hide (And.intro he (And.intro hse (And.intro hno (And.intro hmr (And.intro hLp.w hRg)))))
            obtain ⟨ek, eo, es, ec, eb⟩ := e
            have hbx : (w1.alloc (.cells #[.int .u8 ek, .int .i64 eo, .string es] 61 (0, 0))).heap[w1.heap.size]? = some (.cells #[.int .u8 ek, .int .i64 eo, .string es] 61 (0, 0)) := Array.getElem?_push_size
            obtain ⟨x0, x1, x2⟩ := box3 hbx
            have HLP1 := hide hLp1
            have HRG1 := hide hRg1
            have HMP1 := hide hMp1
            have HBX := hide hbx
            have HOK := hide (And.intro hok hnm)
            have H25 := hide (frame25 ek eo es (w1.alloc (.cells #[.int .u8 ek, .int .i64 eo, .string es] 61 (0, 0))))
            clear he hse hRg1 hMp1 hbx hLp hRg hno hmr hk1 hok hnm hLp1 hs1
            simp only at hen hec
            go_wp2_with fail
            refine H25.out.mono ?_
            rintro e3 w2 ⟨rfl, hb2⟩
            unfold frm
            have H23 := hide (fsize23 ek eo es none 0 0 w2 (wf8 HOK.out.1.k) HOK.out.2.1 (by omega) (.inr rfl))
            unfold frm at H23
            obtain ⟨f, hf⟩ : ∃ f, fsz ek eo es.size 0 = f := ⟨_, rfl⟩
            rw [hf] at H23
            go_wp2_with fail
            refine H23.out.mono ?_
            rintro e4 w3 ⟨rfl, hb3⟩
            have hb23 : Below w1.heap.size w1 w3 := (((Below.refl _ _).alloc (Nat.le_refl _) _).trans (hb2.mono (by simp))).trans (hb3.mono (by have := hb2.size; simp at this; omega))
            have hLp3 := HLP1.out.move hpb HP.out (r := w.heap.size) (Nat.le_refl _) HHR.out.2.2.2.1 (Keep.of_below hb23)
            have hbx3 : w3.heap[w1.heap.size]? = some (.cells #[.int .u8 ek, .int .i64 eo, .string es] 61 (0, 0)) := (hb3.block _ (by have := hb2.size; simp at this; omega)).trans ((hb2.block _ (by simp)).trans HBX.out)
            obtain ⟨y0, y1, y2⟩ := box3 hbx3
            have hf0 : 1 ≤ f := by rw [← hf]; exact fsz_pos ..
            have hszk : szk (ek, eo, es) = (f : Int) := by unfold szk; rw [← hf]
            have hfr : (f : Int) < room := by have := HOK.out.2.2; unfold En.kk at this; rw [hszk] at this; exact this
            have hzb0 := hLp3.zb0
            have hzbr : Wt szk Lb ≤ room := by
              rcases hLp3.fit with h | h
              · rw [h, Wt_nil]; omega
              · exact h
            have c2 := hLp3.b.c2
            obtain ⟨zb, hzb⟩ : ∃ zb, Wt szk Lb = zb := ⟨_, rfl⟩
            rw [hzb] at hzb0 hzbr c2
            obtain ⟨q, hq⟩ : ∃ q, (room - zb) / (f : Int) = q := ⟨_, rfl⟩
            have hq0 : 0 ≤ q := by rw [← hq]; exact Int.ediv_nonneg (by omega) (by omega)
            have hqf : q * (f : Int) ≤ room - zb := by rw [← hq]; exact Int.ediv_mul_le _ (by omega)
            have hqr : q ≤ room - zb := by rw [← hq]; exact Int.ediv_le_self _ (by omega)
            have hqt : Int.tdiv (room - zb) (f : Int) = q := by rw [Int.tdiv_eq_ediv_of_nonneg (by omega)]; exact hq
            have hws : IntKind.i64.wrap (room - zb) = room - zb := wrap_fit _ (by omega) (by omega)
            have hwq : IntKind.i64.wrap q = q := wrap_fit _ (by omega) (by omega)
            have hfn : ¬ ((f : Int) = 0) := by omega
            obtain ⟨kk, hkk⟩ : ∃ kk, min ec q = kk := ⟨_, rfl⟩
            have HQ := hide (And.intro hq (And.intro hq0 (And.intro hqf (And.intro hqr (And.intro hf0 (And.intro hszk (And.intro hfr (And.intro hzb0 (And.intro hzbr hzb)))))))))
            have HLP3 := hide hLp3
            have HBX3 := hide hbx3
            have HB23 := hide hb23
            have HF := hide hf
            clear hq0 hqf hqr hszk hfr hzb0 hzbr hzb hLp3 hbx3 hb23 hb2 hb3 hf hf0
            by_cases hk0 : kk = 0
            · go_wp2_with fail
              go_meet
              refine ⟨mb, Lb, cb', Lw, HLP3.out, fun hne hlb => ?_⟩
              obtain ⟨hq, hq0, hqf, hqr, hf0, hszk, hfr, hzb0, hzbr, hzb⟩ := HQ.out
              rw [hlb, Wt_nil] at hzb
              have h1 : 1 ≤ q := by
                rw [← hq, ← hzb]
                exact (Int.le_ediv_iff_mul_le (by omega)).2 (by omega)
              omega
            · have hkb : 1 ≤ kk ∧ kk ≤ ec ∧ kk ≤ q := by have := HQ.out.2.1; omega
              have hecw : ec ≤ Wt szk Lw := (mem_le (fun q => szk_pos q) HLP3.out.pw' HHR.out.1).1
              have hsum := HLP3.out.sum szk
              have hzw := HLP3.out.zw0
              have hB0 := HL.out.2.1
              have hcb := cnt_le (fun q => szk_pos q) HLP3.out.pb' ek eo es
              have hzbv := HQ.out.2.2.2.2.2.2.2.2.2
              have hzb0' := HQ.out.2.2.2.2.2.2.2.1
              have H24 := hide (bare24 base pb cb' (.slice none 0 0) [] mb Lb zb kk ek eo es w3 (by rw [← hzbv]; exact HLP3.out.b) HOK.out.1 (wf8 HOK.out.1.k) HOK.out.2.1 (by omega) (by omega) (by omega) (by omega) (by omega) (by omega))
              have HKB := hide hkb
              clear hkb hecw hsum hzw hB0 hcb hzbv hzb0'
              go_wp2_with fail
              refine H24.out.mono ?_
              rintro e5 w4 ⟨rfl, b4, c4, clk4, hB4, hmb4, hK4⟩
              rw [HF.out] at hB4
              have hw4 := HLP3.out.w4 HP.out HD.out hK4
              have hbx4 : w4.heap[w1.heap.size]? = some (.cells #[.int .u8 ek, .int .i64 eo, .string es] 61 (0, 0)) := by
                refine (hK4.block _ (heap_lt HBX3.out) ?_).trans HBX3.out
                have hsz := HLP1.out.keep.size
                rintro (h1 | h1 | h1)
                · omega
                · cases h1
                · have := (HLP1.out.b.lt w1.heap.size (.inr (.inr h1))).2
                  omega
              have hMw := (hw4.mso bw rfl).2
              have hex : Lw.any (En.is ek eo es) = true := List.any_eq_true.2 ⟨_, HHR.out.1, is_kk.2 rfl⟩
              have hcw : cnt Lw ek eo es = ec := cnt_mem hMw.dk HHR.out.1
              obtain ⟨W1, W2, clk1, st, hP⟩ := (hMw.same (w' := w4.drew) rfl).puts HOK.out.1 (ec - kk)
              have hc1 := hP.same hex
              have hbump : bump Lw ek eo es (ec - kk) clk = setTo Lw ek eo es (ec - kk) := by unfold bump touch; rw [if_pos hex]
              have hM2 := hP.mp
              rw [hbump, hc1] at hM2
              have hlook := hP.look
              have hlook1 := hP.look1
              have hent := hP.ent
              have hsto := hP.sto
              rw [hcw] at hlook hlook1 hent
              have hwd : IntKind.i64.wrap (ec - kk) = ec - kk := by
                refine wrap_fit _ (by have := HKB.out; omega) ?_
                have := HKB.out
                have h1 : ec ≤ Wt szk Lw := (mem_le (fun q => szk_pos q) HLP3.out.pw' HHR.out.1).1
                have h2 := HLP3.out.sum szk
                have h3 := HLP3.out.zb0
                have h4 := HL.out.2.1
                omega
              have hpwb : pw ≠ bw := fun e => hw4.p_ne_m (e ▸ rfl)
              have hxb : w1.heap.size ≠ bw := by
                intro e
                have h1 := hMw.blk
                rw [← e, hbx4] at h1
                cases h1
              have c1a : w4.cell? ⟨pw, 1, none⟩ = some (.map (some bw)) := hw4.c1
              have c1b : W1.cell? ⟨pw, 1, none⟩ = some (.map (some bw)) := (World.cell?_of_block (w := w4) (hP.o1 pw hpwb)).trans hw4.c1
              have c1c : W2.cell? ⟨pw, 1, none⟩ = some (.map (some bw)) := (World.cell?_of_block (w := w4) (hP.o2 pw hpwb)).trans hw4.c1
              obtain ⟨x0, x1, x2⟩ := box3 hbx4
              obtain ⟨y0, y1, y2⟩ := box3 ((hP.o2 _ hxb).trans hbx4)
              have hK2 : Keep (fun j => j = bw) w4 W2 := ⟨(hP.bel 0 (Nat.zero_le _)).os, (hP.bel 0 (Nat.zero_le _)).tape, (hP.bel 0 (Nat.zero_le _)).output, by rw [hP.sz]; exact Nat.le_refl _, fun j _ hj => hP.o2 j hj⟩
              have HK2 := hide hK2
              have HM2 := hide hM2
              have HB4 := hide (And.intro hB4 (And.intro hmb4 (And.intro hK4 hw4)))
              have HCW := hide hcw
              clear hB4 hmb4 hK4 hw4 hbx4 hMw hex hP hc1 hbump hM2 hK2 hcw
              go_upto_region 9 with fail
              go_cut [] (fun wx => wx = W2)
              case first =>
                go_region
                all_goals (go_wp2_with fail; go_meet; rfl)
              case rest =>
                have hcut' := hcut.symm
                subst hcut'
                clear hcut hlook hlook1 hent hsto x0 x1 x2 c1a c1b
                have hl2 := (HM2.out.same (w' := W2.drew) rfl).look HOK.out.1
                rw [cnt_setTo ⟨_, HHR.out.1, rfl⟩] at hl2
                unfold kv at hl2
                have hcw := HCW.out
                have hzb := HQ.out.2.2.2.2.2.2.2.2.2
                have hszk := HQ.out.2.2.2.2.2.1
                have hkk1 := HKB.out
                have hkf : kk * (f : Int) ≤ room - zb := by
                  have h1 : kk * (f : Int) ≤ q * (f : Int) := Int.mul_le_mul_of_nonneg_right hkk1.2.2 (by omega)
                  have := HQ.out.2.2.1
                  omega
                have hkf0 : 0 ≤ kk * (f : Int) := Int.mul_nonneg (by omega) (by omega)
                have hkz : kk * (f : Int) ≤ 1048576 := by
                  have h1 := (mem_le (fun q => szk_pos q) HLP3.out.pw' HHR.out.1).2
                  have h2 := HLP3.out.sum szk
                  have h3 := HLP3.out.zb0
                  have h4 := HL.out.2.1
                  unfold En.kk at h1
                  rw [hszk] at h1
                  have h5 : kk * (f : Int) ≤ ec * (f : Int) := Int.mul_le_mul_of_nonneg_right hkk1.2.1 (by omega)
                  rw [Int.mul_comm] at h1
                  simp only at h1
                  omega
                have hzb1 : zb ≤ 1048576 := by
                  have h2 := HLP3.out.sum szk
                  have h3 := HLP3.out.zw0
                  have h4 := HL.out.2.1
                  omega
                have hzb0 := HQ.out.2.2.2.2.2.2.2.1
                have hw1 : IntKind.i64.wrap (kk * (f : Int)) = kk * (f : Int) := wrap_small _ (by omega) (by omega)
                have hw3 : IntKind.i64.wrap (z - zb - kk * (f : Int)) = z - zb - kk * (f : Int) := wrap_small _ (by omega) (by omega)
                have hfin : ∀ w5 : World, Mp w5 bw (dec Lw ek eo es kk) clk → Keep (fun j => j = bw) w4 w5 →
                    w5.cell? ⟨pw, 2, none⟩ = some (.int .i64 (z - zb)) ∧ w5.frozen? ⟨pw, 2, none⟩ = false ∧
                    ∃ mb Lb cb Lw' seen', (Lp w (w5.setCell ⟨pw, 2, none⟩ (.int .i64 (z - zb - kk * (f : Int)))) base pb pw vw F (some bw) L clk z room mb Lb cb Lw' ∧ Rg (w5.setCell ⟨pw, 2, none⟩ (.int .i64 (z - zb - kk * (f : Int)))) bw w.heap.size Lw' clk seen' ∧ (Lb = [] → Lw' = L ∧ seen' = #[]) ∧ mb ≠ some w.heap.size) ∧
                      (w5.setCell ⟨pw, 2, none⟩ (.int .i64 (z - zb - kk * (f : Int)))).rangeLeft bw w.heap.size < wr.rangeLeft bw w.heap.size := by
                  intro w5 hM5 hK5
                  obtain ⟨hB4, hmb4, hK4, hw4⟩ := HB4.out
                  have hpwk : pw ≠ bw := fun e => hw4.p_ne_m (e ▸ rfl)
                  have hst5 := (hK5.block pw (hw4.lt pw (.inl rfl)).2 hpwk).trans hw4.st
                  rw [hzb] at hst5
                  refine ⟨by simp [World.cell?, hst5], by simp [World.frozen?, hst5], ?_⟩
                  have hrlt : w.heap.size < w1.heap.size := by
                    obtain ⟨c0, h1, _⟩ := HRG1.out.it
                    exact heap_lt h1
                  have hRg3 : Rg w3 bw w.heap.size Lw clk (seen.push eb) := HRG1.out.same (HB23.out.block _ hrlt)
                  have hdn := Lp.done (c := ec) (d := kk) (k := ek) (o := eo) (s := es) (seen := seen) (eb := eb) (c4 := c4) HLP3.out hpb HP.out HD.out HHR.out.2.2.2.1 rfl (Nat.lt_of_lt_of_le hrlt HB23.out.size) hRg3 HHR.out.1 (by have := HHR.out.2.1; simpa using this) hkk1.1 hkk1.2.1 (by rw [hzb, hszk]; omega) (by rw [hzb, hszk]; exact hB4) hmb4 hK4 hM5 hK5
                  rw [hzb, hszk] at hdn
                  obtain ⟨d1, d2, d3, d4⟩ := hdn
                  refine ⟨_, _, _, _, _, ⟨d1, d2, fun hnil => absurd hnil (bump_ne _ _ _ _ _ _), d3⟩, ?_⟩
                  rw [d2.left (d1.w.mso bw rfl).2, HHR.out.2.2.2.2.2.left (HHR.out.2.2.2.2.1.mso bw rfl).2]
                  exact d4
                have HFIN := hide hfin
                clear hfin hkf hkf0 hkz hzb1 hzb0 hkk1 hcw hzb hszk
                go_upto_region 10 with fail
                by_cases h0 : ec - kk = 0
                · rw [h0] at hl2
                  have hdel : ∀ W : World, W.heap = W2.heap → W.os = W2.os → W.tape = W2.tape → W.output = W2.output → ∃ W3, (Builtin.delete_ #[45, 61] 0 #[.map (some bw), .agg #[.int .u8 ek, .int .i64 eo, .string es]]).run Try.prog W = .ok (.tuple #[]) W3 ∧ Mp W3 bw (dec Lw ek eo es kk) clk ∧ Keep (fun j => j = bw) w4 W3 := by
                    intro W hW h1 h2 h3
                    have hM := HM2.out.same (w' := W) (by rw [hW])
                    refine ⟨_, hM.drop HOK.out.1 0, ?_, ?_⟩
                    · unfold dec
                      rw [HCW.out, if_pos h0]
                      exact hM.dropped ek eo es
                    · have hK := HK2.out
                      exact ⟨h1.trans hK.os, h2.trans hK.tape, h3.trans hK.output, by rw [set_size, hW]; exact hK.size, fun j hj hne => (set_other hne).trans (by rw [hW]; exact hK.block j hj hne)⟩
                  have HDEL := hide hdel
                  clear hdel
                  go_region
                  go_wp2_with fail
                  obtain ⟨W3, hr3, hm3, hk3⟩ := HDEL.out W2.drew.drew rfl rfl rfl rfl
                  have HM3 := hide (And.intro hm3 hk3)
                  clear hm3 hk3
                  go_region
                  obtain ⟨hm3, hk3⟩ := HM3.out
                  obtain ⟨c2, f2, mb', Lb', cb'', Lw', seen', hR, hM⟩ := HFIN.out W3 hm3 hk3
                  have HRM := hide (And.intro hR hM)
                  clear hR hM
                  go_wp2_with fail
                  go_roundw
                  case rel => exact ⟨_, _, _, _, _, HRM.out.1⟩
                  case measure => exact HRM.out.2
                · have hm3 : Mp W2.drew bw (dec Lw ek eo es kk) clk := by
                    unfold dec
                    rw [HCW.out, if_neg h0]
                    exact HM2.out.same rfl
                  obtain ⟨c2, f2, mb', Lb', cb'', Lw', seen', hR, hM⟩ := HFIN.out W2.drew hm3 HK2.out.drew
                  have HRM := hide (And.intro hR hM)
                  clear hR hM hm3
                  go_region
                  go_wp2_with fail
                  go_roundw
                  case rel => exact ⟨_, _, _, _, _, HRM.out.1⟩
                  case measure => exact HRM.out.2
    case rest =>
      obtain ⟨mb, Lb, cb', Lw, hLp, hne⟩ := hcut
      have HQ0 := hide hLp.lq
      have HLP := hide hLp
      have HNE := hide hne
      clear hLp hne
      go_step
      go_step
      go_cut [10] (fun vi wx => vi = .int .i64 0 ∧ wx = wc)
      case first =>
        go_wp2_with fail
        go_meet
        exact ⟨rfl, rfl⟩
      case rest =>
        obtain ⟨h10, hwc⟩ := hcut
        subst h10
        have hwc' := hwc.symm
        subst hwc'
        clear hwc
        go_step
        go_step
        go_cut [10] (fun vi wx => ∃ (i : Nat) (vb : Value), vi = .int .i64 (i : Int) ∧ i ≤ F.length ∧ Lq w wx base pb pw vw F m clk z room mb Lb cb' Lw i vb ∧ (F ≠ [] ∨ L ≠ [] → F.take i ≠ [] ∨ Lb ≠ []))
        case first =>
          go_wp2_with fail
          go_loopw [10] (fun vi wr => ∃ (i : Nat) (vb : Value), vi = .int .i64 (i : Int) ∧ i ≤ F.length ∧ Lq w wr base pb pw vw F m clk z room mb Lb cb' Lw i vb) (fun vi _ => F.length - (intOf vi).toNat)
          case atStart => exact ⟨0, _, rfl, Nat.zero_le _, HQ0.out⟩
          case round =>
            obtain ⟨i, vb, rfl, hile, hLq⟩ := hrel
            have hFn := HFO.out.2.1
            obtain ⟨va0, vc0, rfl⟩ : ∃ a c, vw = .slice a F.length c := by
              rcases hLq.w.row.2 with ⟨h0, h1⟩ | ⟨g', c', _, h0, _⟩
              · exact ⟨_, _, by rw [h0, h1]⟩
              · exact ⟨_, _, h0⟩
            have c0 := hLq.w.c0
            by_cases hlt : i < F.length
            · obtain ⟨f, hf⟩ : ∃ f, F[i]? = some f := ⟨_, List.getElem?_eq_getElem hlt⟩
              obtain ⟨g, cap, hvw, h0, h1, h2, h3⟩ := hLq.w.write hf
              cases hvw
              have hfo := HFO.out.1 f (List.mem_of_getElem? hf)
              obtain ⟨va, vl, vc, hfv, hvl⟩ := hfo.v
              rw [hfv] at h3
              have hsz : f.sz = fsz f.k f.o f.s.size vl := by unfold Fr.sz; rw [hfv]; rfl
              obtain ⟨fk, fo, fs, fv⟩ := f
              simp only at hfv
              subst hfv
              have hH23 := fsize23 fk fo fs va vl vc wr (by have := hfo.k; simp only at this; omega) hfo.s hvl (.inl hfo.k)
              have hs1 := fsum_snoc hf
              have hs2 := fsum_take F (i + 1)
              have hs3 := fsum_nonneg (F.take i)
              have hwb := HLP.out.zb0
              have hwle : Wt szk Lb ≤ Wt szk L := by have := HLP.out.sum szk; have := HLP.out.zw0; omega
              obtain ⟨zb, hzb⟩ : ∃ zb, fsum (F.take i) + Wt szk Lb = zb := ⟨_, rfl⟩
              have hzt := HFO.out.2.2
              rw [hsz] at hs1
              simp only at hs1
              obtain ⟨fz, hfz⟩ : ∃ fz, fsz fk fo fs.size vl = fz := ⟨_, rfl⟩
              have hsz' : ({ k := fk, o := fo, s := fs, v := Value.slice va vl vc } : Fr).sz = fz := by rw [hsz, ← hfz]
              rw [hfz] at hs1 hH23
              have hzb1 : 0 ≤ zb ∧ zb + (fz : Int) ≤ 1048576 := by omega
              have hw1 : IntKind.i64.wrap (zb + (fz : Int)) = zb + (fz : Int) := wrap_small _ (by omega) (by omega)
              have hw2 : IntKind.i64.wrap (z - zb - (fz : Int)) = z - zb - (fz : Int) := wrap_small _ (by omega) (by omega)
              have H23 := hide hH23
              unfold frm at H23
              have HLQ := hide hLq
              have HSZ := hide (And.intro hsz' (And.intro hzb (And.intro hzb1 (And.intro hfo (And.intro hvl (And.intro hf hfz))))))
              clear hH23 hLq hs1 hs2 hs3 hwb hwle hzt hsz hfo hvl hsz' hf hzb hzb1 hfz
              go_wp2_with fail
              refine H23.out.mono ?_
              rintro e1 w1 ⟨rfl, hb1⟩
              have hLq1 := HLQ.out.later hb1
              have hb2 := hLq1.b.c2
              rw [HSZ.out.2.1] at hb2
              have HLQ1 := hide hLq1
              have H26 := hide (empty26 _ _ _ _ _ _ _ _ w1 hLq1.b)
              have c0' := hLq1.w.c0
              obtain ⟨g', cap', hvw, y0, y1, y2, y3⟩ := hLq1.w.write HSZ.out.2.2.2.2.2.1
              cases hvw
              have hB1 := hLq1.b
              rw [HSZ.out.2.1] at hB1
              have hH18 := add18w base pb cb' vb (F.take i) mb Lb zb fk fo fs va vl vc w1 hB1 HSZ.out.2.2.2.1.k HSZ.out.2.2.2.1.s HSZ.out.2.2.2.2.1 (by rw [List.length_take]; omega) (by have := HSZ.out.2.2.1; omega) (by have := HSZ.out.2.2.1; omega)
              rw [HSZ.out.2.2.2.2.2.2] at hH18
              have H18 := hide hH18
              clear hLq1 hb1 hB1 hH18
              by_cases hov : zb + (fz : Int) > room
              · by_cases hem : F.take i = [] ∧ Lb = []
                · have hdec : decide (F.take i = [] ∧ Lb = []) = true := decide_eq_true hem
                  rw [hdec] at H26
                  go_wp2_with fail
                  refine H26.out.mono ?_
                  rintro e2 w1' ⟨rfl, rfl⟩
                  go_wp2_with fail
                  refine H18.out.mono ?_
                  rintro e3 w2 ⟨rfl, vb2, hB2, hl2, hK2⟩
                  have hst := HLQ1.out.step hpb HP.out HD.out HSZ.out.2.2.2.2.2.1 (.inr hem) (by rw [HSZ.out.1, HSZ.out.2.1]; exact hB2) hl2 hK2
                  rw [HSZ.out.1, HSZ.out.2.1] at hst
                  have d2 := hst.1.c2
                  have df := hst.1.fz 2
                  have HST := hide hst.2
                  clear hst hB2 hl2 hK2
                  go_wp2_with fail
                  go_roundw
                  case rel => exact ⟨i + 1, vb2, by go_num, by omega, HST.out⟩
                  case measure => simp [intOf]; omega
                · have hdec : decide (F.take i = [] ∧ Lb = []) = false := decide_eq_false hem
                  rw [hdec] at H26
                  go_wp2_with fail
                  refine H26.out.mono ?_
                  rintro e2 w1' ⟨rfl, rfl⟩
                  go_wp2_with fail
                  go_meet
                  refine ⟨i, vb, rfl, hile, HLQ1.out, fun _ => ?_⟩
                  by_cases h1 : F.take i = []
                  · exact .inr (fun h2 => hem ⟨h1, h2⟩)
                  · exact .inl h1
              · go_wp2_with fail
                refine H18.out.mono ?_
                rintro e3 w2 ⟨rfl, vb2, hB2, hl2, hK2⟩
                have hst := HLQ1.out.step hpb HP.out HD.out HSZ.out.2.2.2.2.2.1 (.inl (by rw [HSZ.out.1, HSZ.out.2.1]; omega)) (by rw [HSZ.out.1, HSZ.out.2.1]; exact hB2) hl2 hK2
                rw [HSZ.out.1, HSZ.out.2.1] at hst
                have d2 := hst.1.c2
                have df := hst.1.fz 2
                have HST := hide hst.2
                clear hst hB2 hl2 hK2
                go_wp2_with fail
                go_roundw
                case rel => exact ⟨i + 1, vb2, by go_num, by omega, HST.out⟩
                case measure => simp [intOf]; omega
            · have hie : i = F.length := by omega
              go_wp2_with fail
              go_meet
              refine ⟨i, vb, rfl, hile, hLq, fun h => ?_⟩
              rcases h with h | h
              · rw [hie, List.take_length]
                exact .inl h
              · exact .inr (HNE.out h)
        case rest =>
          obtain ⟨i, vb, h10, hile, hLq, hsm⟩ := hcut
          subst h10
          have c0 := hLq.w.c0
          have f0 := hLq.w.fz 0
          have hpwg : vw.ownBlock ≠ some pw := hLq.w.p_ne_w
          have hzz : z - (fsum (F.take i) + Wt szk Lb) = fsum (F.drop i) + Wt szk Lw := by
            have h1 := HFO.out.2.2
            have h2 := HLP.out.sum szk
            have h3 := fsum_append (F.take i) (F.drop i)
            rw [List.take_append_drop] at h3
            omega
          have hend : ∀ (w2 : World) (vw' : Value), w2.ownsRow base 55 4 vw' (F.drop i).length (cellsOf (F.drop i)) → Keep (fun k => vw.ownBlock = some k) wc w2 →
              w2.cell? ⟨pw, 0, none⟩ = some vw ∧ w2.frozen? ⟨pw, 0, none⟩ = false ∧ ∃ F1 F2 vb vw'' mb m' Lb Lw cb' clk', Took w (w2.setCell ⟨pw, 0, none⟩ vw') base pb pw vw F m L clk room F1 F2 vb vw'' mb m' Lb Lw cb' clk' := by
            intro w2 vw' hrow hK
            have hst : w2.heap[pw]? = some (.cells #[vw, .map m, .int .i64 (z - (fsum (F.take i) + Wt szk Lb))] 47 (0, 0)) := (hK.block pw (hLq.w.lt pw (.inl rfl)).2 hpwg).trans hLq.w.st
            refine ⟨by simp [World.cell?, hst], by simp [World.frozen?, hst], F.take i, F.drop i, vb, vw', mb, m, Lb, Lw, cb', clk, ⟨(List.take_append_drop i F).symm, ?_, ?_, HLP.out.sum, HLP.out.pb', HLP.out.pw', hsm, ?_, HLP.out.nm, ?_⟩⟩
            · have h1 : Bt w2 base pb vb (F.take i) mb Lb cb' (fsum (F.take i) + Wt szk Lb) := by
                refine hLq.b.keep hK ?_
                rintro j hj e
                have hlt := HP.out j (.inr (.inl e))
                rcases hj with e' | e' | e'
                · exact HD.out (e' ▸ .inr (.inl e))
                · have := hLq.vb' j e'; omega
                · have := hLq.mb' j e'; omega
              refine h1.same (fun j hj => Below.heap_setCell _ _ _ _ ?_)
              show j ≠ pw
              rintro rfl
              have hlt := HP.out j (.inl rfl)
              rcases hj with e' | e' | e'
              · exact HD.out (e' ▸ .inl rfl)
              · have := hLq.vb' j e'; omega
              · have := hLq.mb' j e'; omega
            · rw [← hzz]
              exact hLq.w.newRow hK hrow
            · rcases hLq.fit with h | ⟨h, h'⟩
              · exact .inl h
              · exact .inr ⟨h, by rw [List.length_take]; omega⟩
            · exact Keep.setCell (hLq.keep.trans hK (fun j hj e => .inr (.inr (.inl e)))) (.inl (.inr (.inl rfl))) _
          have HEND := hide hend
          by_cases hi0 : i = 0
          · subst hi0
            have H27 := hide (del27z vw _ _ base wc hLq.w.row HFO.out.2.1)
            have HROW := hide hLq.w.row
            obtain ⟨a0, b0, c0', rfl⟩ : ∃ a b c, vw = .slice a b c := by
              rcases hLq.w.row.2 with ⟨h0, _⟩ | ⟨g', c', _, h0, _⟩ <;> exact ⟨_, _, _, h0⟩
            clear hend hLq hzz hsm
            go_wp2_with fail
            refine H27.out.mono ?_
            rintro e2 w2 ⟨rfl, rfl⟩
            obtain ⟨q0, q1, q2⟩ := HEND.out w2 _ HROW.out (Keep.refl _ _)
            have HQ2 := hide q2
            clear q2
            go_wp2_with fail
            go_end0
            exact ⟨rfl, HQ2.out⟩
          · rcases hLq.w.row.2 with ⟨h0, h1⟩ | ⟨g, cap, cur, rfl, _⟩
            · omega
            · have H27 := hide (del27 wc base g cap F i hLq.w.row (fun f hf => by obtain ⟨a, b, c, h, _⟩ := (HFO.out.1 f hf).v; rw [h]; rfl) (by omega) hile HFO.out.2.1)
              clear hend hLq hzz hsm
              go_wp2_with fail
              refine H27.out.mono ?_
              rintro e2 w2 ⟨rfl, hrow, hK⟩
              obtain ⟨q0, q1, q2⟩ := HEND.out w2 _ hrow (hK.mono (fun k _ e => by rw [e]; rfl))
              have HQ2 := hide q2
              clear q2 hrow hK
              go_wp2_with fail
              go_end0
              have hq := HQ2.out
              rw [List.length_drop] at hq
              exact ⟨rfl, hq⟩

end Go.Proofs.Qxb6609323a
