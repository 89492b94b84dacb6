import Derived.Test.Qxb6609323aSix
import Derived.Test.Qxb6609323aLawA
namespace Go.Proofs.Qxb6609323a
open Go.RowKit Go.Maps Go.WideElems
set_option linter.unusedVariables false

theorem asked_all {T : List Fr} {P : Fr → Prop} (h : ∀ j f, j < T.length → T[j]? = some f → P f) : ∀ f ∈ T, P f := by
  intro f hf
  obtain ⟨j, hj⟩ := List.getElem?_of_mem hf
  exact h j f (List.getElem?_eq_some_iff.1 hj).1 hj

theorem upto {T : List Fr} {P : Fr → Prop} {i : Nat} {f : Fr} (h : ∀ j f, j < i → T[j]? = some f → P f) (hf : T[i]? = some f) (hp : P f) : ∀ j f, j < i + 1 → T[j]? = some f → P f := by
  intro j f' hj hf'
  by_cases hji : j < i
  · exact h j f' hji hf'
  · have : j = i := by omega
    subst this
    rw [hf] at hf'
    cases hf'
    exact hp

set_option maxRecDepth 100000 in
set_option maxHeartbeats 20000000 in
theorem law3 (v : Value) (T : List Fr) (room : Int) (w : World) (h : Fs w v T) (ha : ∀ f ∈ T, AOk w f) (hl : T.length ≤ maxLen) (hr0 : -9223372036854775808 ≤ room) (hr1 : room ≤ 9223372036854775807) :
    Calls Try.prog 3 #[v, .int .i64 room] w fun e w' => e = .returned (.bool true) ∧ Below w.heap.size w w' := by
  have H4 := hide (bytes4 v T room w h ha hl)
  have HFS := hide h
  have HA := hide ha
  obtain ⟨⟨a, c, rfl, han⟩, h2⟩ := h
  have HAT := hide h2
  unfold maxLen at hl
  clear ha han h2
  go_enter Try.func3, Try.ntmps3
  go_wp2_with fail
  refine H4.out.mono ?_
  rintro e w1 ⟨b, rfl, hw1⟩
  have hw1' := hw1.symm
  subst hw1'
  clear hw1
  cases b with
  | false =>
    go_wp2_with fail
    go_ret
    exact ⟨rfl, Below.refl _ _⟩
  | true =>
    by_cases hbig : 4096 < T.length
    · have hd : decide ((4096 : Int) < (T.length : Int)) = true := decide_eq_true (by omega)
      go_wp2_with fail
      go_ret
      exact ⟨rfl, Below.refl _ _⟩
    · have hd : decide ((4096 : Int) < (T.length : Int)) = false := decide_eq_false (by omega)
      go_wp2_with fail
      go_loopw [5, 6] (fun vx vi wr => ∃ (i : Nat), vi = .int .i64 (i : Int) ∧ vx = .int .i64 (wsum (T.take i)) ∧ i ≤ T.length ∧ 0 ≤ wsum (T.take i) ∧ wsum (T.take i) ≤ (i : Int) * 2097192 ∧ (∀ j f, j < i → T[j]? = some f → f.s.size ≤ 1048576 ∧ vlen f.v ≤ 1048576) ∧ Below w.heap.size w wr) (fun _ vi _ => T.length - (intOf vi).toNat)
      case atStart => exact ⟨0, rfl, rfl, Nat.zero_le _, Int.le_refl _, by simp [wsum], (fun j f hj => by omega), Below.refl _ _⟩
      case round =>
        obtain ⟨i, rfl, rfl, hi, hw0, hwi, hbd, hb⟩ := hrel
        by_cases hlt : i < T.length
        · as_aux_lemma =>
            obtain ⟨g, off, c', hv, hc⟩ := HAT.out (by omega)
            cases hv
            obtain ⟨f, hf⟩ : ∃ f, T[i]? = some f := ⟨_, List.getElem?_eq_getElem hlt⟩
            obtain ⟨q0, q1, q2, q3⟩ := (hc i f hf).later hb
            obtain ⟨va, vl, vc, hfv, hvl, hvr⟩ := (HA.out f (List.mem_of_getElem? hf)).v
            rw [hfv] at q3
            by_cases hs : 1048576 < f.s.size
            · have d1 : decide ((1048576 : Int) < (f.s.size : Int)) = true := decide_eq_true (by omega)
              clear hc hvr
              go_wp2_with fail
              go_ret
              exact ⟨rfl, hb⟩
            · have d1 : decide ((1048576 : Int) < (f.s.size : Int)) = false := decide_eq_false (by omega)
              by_cases hvv : 1048576 < vl
              · have d2 : decide ((1048576 : Int) < (vl : Int)) = true := decide_eq_true (by omega)
                clear hc hvr
                go_wp2_with fail
                go_ret
                exact ⟨rfl, hb⟩
              · have d2 : decide ((1048576 : Int) < (vl : Int)) = false := decide_eq_false (by omega)
                have hsn := wsum_snoc hf
                have hwt : f.wt = 40 + (f.s.size : Int) + (vl : Int) := by unfold Fr.wt; rw [hfv]; rfl
                obtain ⟨x, hx⟩ : ∃ x, wsum (T.take i) = x := ⟨_, rfl⟩
                rw [hx] at hw0 hwi hsn
                have e1 : IntKind.i64.wrap (40 + (f.s.size : Int)) = 40 + (f.s.size : Int) := wrap_small _ (by omega) (by omega)
                have e2 : IntKind.i64.wrap (40 + (f.s.size : Int) + (vl : Int)) = 40 + (f.s.size : Int) + (vl : Int) := wrap_small _ (by omega) (by omega)
                have e3 : IntKind.i64.wrap (x + (40 + (f.s.size : Int) + (vl : Int))) = x + (40 + (f.s.size : Int) + (vl : Int)) := wrap_small _ (by omega) (by omega)
                have HR := hide (And.intro hsn (And.intro hwt (And.intro hbd (And.intro hb (And.intro hf hfv)))))
                clear hc hvr hsn hwt hbd hb hf hfv
                rw [hx]
                go_wp2_with fail
                go_quiet (fail)
                go_wp2_with fail
                go_roundw
                case rel =>
                  obtain ⟨hsn, hwt, hbd, hb, hf, hfv⟩ := HR.out
                  refine ⟨i + 1, by go_num, ?_, by omega, by omega, by omega, upto hbd hf ⟨by omega, by rw [hfv]; show vl ≤ 1048576; omega⟩, Below.drewN' _ hb⟩
                  rw [hsn, hwt]
                case measure => simp [intOf]; omega
        · as_aux_lemma =>
            have hie : i = T.length := by omega
            subst hie
            rw [List.take_length] at hw0 hwi ⊢
            have hbnd := asked_all hbd
            by_cases hwb : 1048576 < wsum T
            · have d1 : decide ((1048576 : Int) < wsum T) = true := decide_eq_true hwb
              clear hbd
              go_wp2_with fail
              go_ret
              exact ⟨rfl, hb⟩
            · have d1 : decide ((1048576 : Int) < wsum T) = false := decide_eq_false hwb
              have HBN := hide (And.intro hbnd hb)
              clear hbd hbnd hb
              go_wp2_with fail
              go_loopw [7] (fun vi wr => ∃ (i : Nat), vi = .int .i64 (i : Int) ∧ i ≤ T.length ∧ (∀ j f, j < i → T[j]? = some f → f.k ≤ 3 ∧ (2 ≤ f.k → szk f.q < room)) ∧ Below w.heap.size w wr) (fun vi _ => T.length - (intOf vi).toNat)
              case atStart => exact ⟨0, rfl, Nat.zero_le _, (fun j f hj => by omega), HBN.out.2⟩
              case round =>
                obtain ⟨i, rfl, hi, hbd, hb⟩ := hrel
                by_cases hlt : i < T.length
                · as_aux_lemma =>
                    obtain ⟨g, off, c', hv, hc⟩ := HAT.out (by omega)
                    cases hv
                    obtain ⟨f, hf⟩ : ∃ f, T[i]? = some f := ⟨_, List.getElem?_eq_getElem hlt⟩
                    have hfm := List.mem_of_getElem? hf
                    obtain ⟨q0, q1, q2, q3⟩ := (hc i f hf).later hb
                    by_cases hk3 : 3 < f.k
                    · clear hc
                      go_wp2_with fail
                      go_ret
                      exact ⟨rfl, hb⟩
                    · have hk0 : 0 ≤ f.k := wf8 (HA.out f hfm).ok.k
                      have hfs := (HBN.out.1 f hfm).1
                      obtain ⟨fz, hfz⟩ : ∃ fz, fsz f.k f.o f.s.size 0 = fz := ⟨_, rfl⟩
                      have hszk : szk f.q = (fz : Int) := by unfold szk Fr.q; rw [← hfz]
                      have hi0 : (0 : Int) ≤ (i : Int) := by omega
                      have hi1 : (i : Int) < (T.length : Int) := by omega
                      have HR := hide (And.intro hbd (And.intro hb (And.intro hf (And.intro hszk hfz))))
                      clear hc hbd hb hf hszk hfz
                      by_cases hk2 : 2 ≤ f.k
                      · by_cases hfr : room ≤ (fz : Int)
                        · go_wp2_with fail
                          go_region_held3 (fun W => W.cell? ⟨g, off + i * 4, none⟩ = some (.int .u8 f.k) ∧ W.cell? ⟨g, off + i * 4 + 1, none⟩ = some (.int .i64 f.o) ∧ W.cell? ⟨g, off + i * 4 + 2, none⟩ = some (.string f.s)) (first | exact ⟨q0, q1, q2⟩ | go_keep)
                            ((go_at_call 5; refine (size5 f.k f.o f.s 0 _ hk0 hfs (by omega)).mono ?_; rintro e w2 ⟨rfl, rfl⟩; rw [HR.out.2.2.2.2]))
                          all_goals
                            go_wp2_with fail
                            go_ret
                            exact ⟨rfl, HR.out.2.1.drew⟩
                        · go_wp2_with fail
                          go_region_held3 (fun W => W.cell? ⟨g, off + i * 4, none⟩ = some (.int .u8 f.k) ∧ W.cell? ⟨g, off + i * 4 + 1, none⟩ = some (.int .i64 f.o) ∧ W.cell? ⟨g, off + i * 4 + 2, none⟩ = some (.string f.s)) (first | exact ⟨q0, q1, q2⟩ | go_keep)
                            ((go_at_call 5; refine (size5 f.k f.o f.s 0 _ hk0 hfs (by omega)).mono ?_; rintro e w2 ⟨rfl, rfl⟩; rw [HR.out.2.2.2.2]))
                          all_goals
                            go_wp2_with fail
                            go_roundw
                            case rel => exact ⟨i + 1, by go_num, by omega, upto HR.out.1 HR.out.2.2.1 ⟨by omega, fun _ => by rw [HR.out.2.2.2.1]; omega⟩, HR.out.2.1.drew⟩
                            case measure => simp [intOf]; omega
                      · have d2 : decide ((2 : Int) ≤ f.k) = false := decide_eq_false hk2
                        go_wp2_with fail
                        go_quiet (fail)
                        all_goals
                          go_wp2_with fail
                          go_roundw
                          case rel => exact ⟨i + 1, by go_num, by omega, upto HR.out.1 HR.out.2.2.1 ⟨by omega, fun h => absurd h (by omega)⟩, Below.drewN' _ HR.out.2.1⟩
                          case measure => simp [intOf]; omega
                · as_aux_lemma =>
                    have hie : i = T.length := by omega
                    subst hie
                    have hk := asked_all hbd
                    have hAsk : Asked T room := ⟨by omega, HBN.out.1, by omega, fun f hf => (hk f hf).1, fun f hf => (hk f hf).2⟩
                    have H6 := hide (clone6 _ T wr (HFS.out.later hb) (fun f hf => (HA.out f hf).later hb) (by omega) (fun f hf => (HBN.out.1 f hf).2))
                    have HASK := hide hAsk
                    have HB1 := hide hb
                    have HKO := hide (fun f hf => (HA.out f hf).ok : ∀ f ∈ T, KOk f.k f.o f.s)
                    clear hbd hk hAsk hb H4 HFS HA HAT HBN hd d1 hwb hw0 hwi
                    go_wp2_with fail
                    refine H6.out.mono ?_
                    rintro e w3 ⟨v', T', rfl, hCl, hdd, hb3⟩
                    obtain ⟨gv, cv', hv'⟩ : ∃ a c, v' = .slice a T'.length c := by
                      rcases hCl.sh with ⟨h1, a, c, h2⟩ | ⟨g, cur, h1, _⟩
                      · exact ⟨a, c, by rw [h2, h1]; rfl⟩
                      · exact ⟨_, _, h1⟩
                    subst hv'
                    have hAsk := HASK.out.d hdd
                    have hTok : ∀ f ∈ T', TOk f ∧ KOk f.k f.o f.s := fun f hf => by
                      obtain ⟨f0, m0, e1, e2, e3, e4⟩ := mem_d hdd hf
                      have hk := HKO.out f0 m0
                      rw [e1, e2, e3] at hk
                      obtain ⟨va, vl, vc, e5, _⟩ := hCl.vals f hf
                      have hb := hAsk.bnd f hf
                      exact ⟨⟨wf8 hk.k, hb.1, va, vl, vc, e5, by rw [e5] at hb; exact hb.2⟩, hk⟩
                    have hsum : fsum (wrt T') + bsum T' ≤ 1048576 := by
                      have h1 := sum_le hAsk.bnd
                      have h2 := hAsk.wt
                      omega
                    have H7 := hide (model7 wr.heap.size _ T' w3 hCl (fun f hf => (hTok f hf).1) hAsk.len hsum)
                    have HB3 := hide (HB1.out.trans (hb3.mono HB1.out.size))
                    have HCL := hide hCl
                    have HAK := hide (And.intro hAsk (And.intro hTok hsum))
                    have hTl : T'.length ≤ 4096 := hAsk.len
                    clear hCl hdd hb3 hAsk hTok hsum HASK HKO H6 HB1
                    go_wp2_with fail
                    refine H7.out.mono ?_
                    rintro e w4 ⟨V, K, A, rfl, hrows, hM, hWa, hKl, hb4⟩
                    obtain ⟨w5, hw5⟩ : ∃ x, x = w4.alloc (.cells #[V 0, V 1, V 2, V 3, V 4, V 5, V 6, .int .i64 (bsum T'), .int .i64 (fsum (wrt T'))] 32 (0, 0)) := ⟨_, rfl⟩
                    have hEnv : Env w5 (.slice gv T'.length cv') T' w4.heap.size V K A := by rw [hw5]; exact env_start HCL.out hb4 hrows _ rfl
                    have hB5 : Below w.heap.size w w5 := by
                      rw [hw5]
                      have h1 := HB3.out.trans (hb4.mono HB3.out.size)
                      exact h1.alloc h1.size _
                    obtain ⟨a0, c0, hv0⟩ := hEnv.shape (j := 0) (by omega)
                    obtain ⟨a1, c1, hv1⟩ := hEnv.shape (j := 1) (by omega)
                    obtain ⟨a2, c2, hv2⟩ := hEnv.shape (j := 2) (by omega)
                    obtain ⟨a3, c3, hv3⟩ := hEnv.shape (j := 3) (by omega)
                    obtain ⟨a4, c4, hv4⟩ := hEnv.shape (j := 4) (by omega)
                    obtain ⟨a5, c5, hv5⟩ := hEnv.shape (j := 5) (by omega)
                    obtain ⟨a6, c6, hv6⟩ := hEnv.shape (j := 6) (by omega)
                    rw [show (XS K A (zl T') 0).length = K.length from by simp [XS]] at hv0
                    rw [show (XS K A (zl T') 1).length = K.length from by simp [XS]] at hv1
                    rw [show (XS K A (zl T') 2).length = K.length from by simp [XS]] at hv2
                    rw [show (XS K A (zl T') 3).length = K.length from by simp [XS]] at hv3
                    rw [show (XS K A (zl T') 4).length = K.length from by simp [XS]] at hv4
                    rw [show (XS K A (zl T') 5).length = (wrt T').length from by simp [XS, hWa.len]] at hv5
                    rw [show (XS K A (zl T') 6).length = (wrt T').length from by simp [XS, zl]] at hv6
                    have hKl4 : K.length ≤ 4096 := by omega
                    have hWl4 : (wrt T').length ≤ 4096 := by have h1 := List.length_filter_le (fun f : Fr => decide (f.k ≤ 1)) T'; unfold wrt; omega
                    have H8 := hide (new8 w5 w5.heap.size (Nat.le_refl _))
                    have HENV := hide hEnv
                    have HMO := hide (And.intro hM hWa)
                    have HB5 := hide hB5
                    rw [hv0, hv1, hv2, hv3, hv4, hv5, hv6] at hw5
                    rw [hv0, hv1, hv2, hv3, hv4, hv5, hv6]
                    have HW5 := hide hw5
                    clear hrows hM hWa hb4 hEnv hB5 hw5 HCL HB3 H7
                    go_wp2_with fail
                    rw [← HW5.out]
                    refine H8.out.mono ?_
                    rintro e w6 ⟨rfl, hBt6, hb6, hs6⟩
                    have hAd0 : Ad w5 w6 w5.heap.size T' 0 (.slice none 0 0) none [] 0 := ⟨hBt6, rfl, (fun e he => by cases he), fun q => rfl, rfl, hb6⟩
                    have HAD := hide hAd0
                    clear hBt6 hb6 hs6 hAd0
                    go_wp2_with fail
                    go_loopw [10] (fun vi wr => ∃ (i : Nat) (vw : Value) (m : Option Nat) (L : List En) (clk : Nat), vi = .int .i64 (i : Int) ∧ i ≤ T'.length ∧ Ad w5 wr w5.heap.size T' i vw m L clk) (fun vi _ => T'.length - (intOf vi).toNat)
                    case atStart => exact ⟨0, _, _, _, _, rfl, Nat.zero_le _, HAD.out⟩
                    case round =>
                      obtain ⟨i, vw, m, L, clk, rfl, hi, hAd⟩ := hrel
                      by_cases hlt : i < T'.length
                      · as_aux_lemma =>
                          obtain ⟨f, hf⟩ : ∃ f, T'[i]? = some f := ⟨_, List.getElem?_eq_getElem hlt⟩
                          have hfm := List.mem_of_getElem? hf
                          obtain ⟨g, hg, hfa⟩ := (HENV.out.later hAd.below).at' hf
                          cases hg
                          obtain ⟨q0, q1, q2, q3⟩ := hfa
                          obtain ⟨⟨hk0, hfs, va, vl, vc, hfv, hvl⟩, hKO⟩ := HAK.out.2.1 f hfm
                          rw [hfv] at q3
                          obtain ⟨hz0, hz1, hcn⟩ := hAd.small HAK.out.2.2
                          have hi0 : (0 : Int) ≤ (i : Int) := by omega
                          have hi1 : (i : Int) < (T'.length : Int) := by omega
                          have hAdd := hAd.bt.drew
                          have hpt : ∀ W : World, True := fun _ => trivial
                          have HADi := hide hAd
                          have HF := hide (And.intro hf hfv)
                          by_cases hk : f.k ≤ 1
                          · have H9 := hide (add9w w5.heap.size w5.heap.size clk vw (wrt (T'.take i)) m L _ f.k f.o f.s va vl vc wr.drew hAdd (by omega) hfs hvl (by have h1 := List.length_filter_le (fun f : Fr => decide (f.k ≤ 1)) (T'.take i); rw [List.length_take] at h1; unfold wrt; omega) (by omega) (by omega))
                            clear hAd hAdd hcn hf hfv hKO
                            go_wp2_with fail
                            go_region_held3 (fun W => W.cell? ⟨g, i * 4, none⟩ = some (.int .u8 f.k) ∧ W.cell? ⟨g, i * 4 + 1, none⟩ = some (.int .i64 f.o) ∧ W.cell? ⟨g, i * 4 + 2, none⟩ = some (.string f.s) ∧ W.cell? ⟨g, i * 4 + 3, none⟩ = some (.slice va vl vc)) (first | exact ⟨q0, q1, q2, q3⟩ | exact ⟨r0, r1, r2, r3⟩ | go_keep)
                              ((go_at_call 9; refine H9.out.mono ?_; rintro e w2 ⟨rfl, vw', hBt, hKp⟩; replace hKp := Keep.undrew hKp; have hAd2 := hide (HADi.out.write HF.out.1 hk (f := f) (vw' := vw') (w' := w2) (by rw [show f = ⟨f.k, f.o, f.s, .slice va vl vc⟩ from by rw [← HF.out.2]]; rw [show (Fr.sz ⟨f.k, f.o, f.s, .slice va vl vc⟩ : Nat) = fsz f.k f.o f.s.size vl from rfl]; exact hBt) hKp); obtain ⟨g', hg', r0, r1, r2, r3⟩ := (HENV.out.later hAd2.out.below).at' HF.out.1; cases hg'; rw [HF.out.2] at r3; clear hBt hKp))
                            all_goals
                              go_wp2_with fail
                              go_roundw
                              case rel => exact ⟨i + 1, _, _, _, _, by go_num, by omega, hAd2.out⟩
                              case measure => simp [intOf]; omega
                          · have H9 := hide (add9b w5.heap.size w5.heap.size clk vw (wrt (T'.take i)) m L _ f.k f.o f.s va vl vc wr.drew hAdd hKO (by omega) hfs (by omega) (by omega) (by have := hcn f.k f.o f.s; omega) (by have := hcn f.k f.o f.s; omega))
                            have hk1 : 1 < f.k := by omega
                            clear hAd hAdd hcn hf hfv hKO
                            go_wp2_with fail
                            go_region_held3 (fun W => W.cell? ⟨g, i * 4, none⟩ = some (.int .u8 f.k) ∧ W.cell? ⟨g, i * 4 + 1, none⟩ = some (.int .i64 f.o) ∧ W.cell? ⟨g, i * 4 + 2, none⟩ = some (.string f.s) ∧ W.cell? ⟨g, i * 4 + 3, none⟩ = some (.slice va vl vc)) (first | exact ⟨q0, q1, q2, q3⟩ | exact ⟨r0, r1, r2, r3⟩ | go_keep)
                              ((go_at_call 9; refine H9.out.mono ?_; rintro e w2 ⟨rfl, b2, c02, clk2, hBt, hKp⟩; replace hKp := Keep.undrew hKp; have hAd2 := hide (HADi.out.bare HF.out.1 hk1 hBt hKp); obtain ⟨g', hg', r0, r1, r2, r3⟩ := (HENV.out.later hAd2.out.below).at' HF.out.1; cases hg'; rw [HF.out.2] at r3; clear hBt hKp))
                            all_goals
                              go_wp2_with fail
                              go_roundw
                              case rel => exact ⟨i + 1, _, _, _, _, by go_num, by omega, hAd2.out⟩
                              case measure => simp [intOf]; omega
                      · as_aux_lemma =>
                          have hie : i = T'.length := by omega
                          subst hie
                          obtain ⟨w8, hw8⟩ : ∃ x, x = wr := ⟨_, rfl⟩
                          subst hw8
                          have hSt0 := St.start hAd HMO.out.1 HAK.out.1 HAK.out.2.2 hKl4
                          have k0 := (HENV.out.later hAd.below).cell.1
                          rw [hv0] at k0
                          have hmk := fun w => Go.run_make_row' (P := Try.prog) 29 3 _ 8 Try.underlying29 info3 rfl .i64 .i64 K.length (by omega) (by omega) w
                          have HST := hide hSt0
                          have htot : bsum T' + fsum (wrt T') - (fsum ((wrt T').drop 0) + Wt szk L) = 0 := by
                            have := hAd.tot
                            rw [List.take_length] at this
                            rw [List.drop_zero]
                            omega
                          have HTOT := hide htot
                          clear hSt0 hAd htot
                          go_wp2_with fail
                          go_loopw [12, 13, 14] (fun vn vm vr wr => ∃ (nx rd : Nat) (vw : Value) (m : Option Nat) (Lw : List En) (clk : Nat), vn = .int .i64 (nx : Int) ∧ vm = .int .i64 (bsum T' + fsum (wrt T') - (fsum ((wrt T').drop nx) + Wt szk Lw)) ∧ vr = .int .i64 (rd : Int) ∧ St w5 wr T' K w8.heap.size room nx rd vw m Lw clk) (fun _ _ vr _ => T'.length + 1 - (intOf vr).toNat)
                          case atStart => exact ⟨0, 0, vw, m, L, clk, rfl, by rw [HTOT.out], rfl, HST.out⟩
                          case round =>
                            obtain ⟨nx, rd, vw, m, Lw, clk, rfl, rfl, rfl, hSt⟩ := hrel
                            obtain ⟨w9, hw9⟩ : ∃ x, x = wr := ⟨_, rfl⟩
                            subst hw9
                            have hrdl := hSt.rdl
                            have hnxl := hSt.nxl
                            have hrd : (rd : Int) ≤ (T'.length : Int) := by omega
                            have H10 := hide (writes10 _ _ _ _ _ _ _ _ w9 hSt.bt)
                            have H11 := hide (keys11 _ _ _ _ _ _ _ _ w9 hSt.bt)
                            obtain ⟨mv, hmv⟩ : ∃ mv, bsum T' + fsum (wrt T') - (fsum ((wrt T').drop nx) + Wt szk Lw) = mv := ⟨_, rfl⟩
                            have HSTi := hide hSt
                            clear hSt
                            rw [hmv]
                            have HMV := hide hmv
                            clear hmv
                            go_upto_region 33 with fail
                            obtain ⟨n1, hn1⟩ : ∃ n1, ((wrt T').drop nx).length = n1 := ⟨_, rfl⟩
                            obtain ⟨n2, hn2⟩ : ∃ n2, Lw.length = n2 := ⟨_, rfl⟩
                            rw [hn1] at H10
                            rw [hn2] at H11
                            go_cut [156] (fun vb wx => vb = .bool (decide ((wrt T').drop nx = [] ∧ Lw = [])) ∧ wx = w9)
                            case first =>
                              by_cases hF : (wrt T').drop nx = []
                              · have hl1 : ((n1 : Int) == 0) = true := by rw [← hn1, hF]; rfl
                                by_cases hLw : Lw = []
                                · have hl2 : ((n2 : Int) == 0) = true := by rw [← hn2, hLw]; rfl
                                  clear hn1 hn2
                                  go_wp2_with fail
                                  refine H10.out.mono ?_
                                  rintro e x ⟨rfl, rfl⟩
                                  go_wp2_with fail
                                  refine H11.out.mono ?_
                                  rintro e x2 ⟨rfl, rfl⟩
                                  go_wp2_with fail
                                  go_meet
                                  exact ⟨by simp [hF, hLw], rfl⟩
                                · have hl2 : ((n2 : Int) == 0) = false := by
                                    rw [beq_eq_false_iff_ne, ← hn2]
                                    intro e
                                    exact hLw (List.length_eq_zero_iff.1 (by omega))
                                  clear hn1 hn2
                                  go_wp2_with fail
                                  refine H10.out.mono ?_
                                  rintro e x ⟨rfl, rfl⟩
                                  go_wp2_with fail
                                  refine H11.out.mono ?_
                                  rintro e x2 ⟨rfl, rfl⟩
                                  go_wp2_with fail
                                  go_meet
                                  exact ⟨by simp [hLw], rfl⟩
                              · have hl1 : ((n1 : Int) == 0) = false := by
                                  rw [beq_eq_false_iff_ne, ← hn1]
                                  intro e
                                  exact hF (List.length_eq_zero_iff.1 (by omega))
                                clear hn1 hn2
                                go_wp2_with fail
                                refine H10.out.mono ?_
                                rintro e x ⟨rfl, rfl⟩
                                go_wp2_with fail
                                go_meet
                                exact ⟨by simp [hF], rfl⟩
                            case rest =>
                              obtain ⟨h156, hwc⟩ := hcut
                              have hwc' := hwc.symm
                              subst hwc'
                              clear hwc hn1 hn2 H10 H11
                              by_cases hE : (wrt T').drop nx = [] ∧ Lw = []
                              · as_aux_lemma =>
                                  rw [decide_eq_true hE] at h156
                                  subst h156
                                  obtain ⟨hE1, hE2⟩ := hE
                                  have hnxe : nx = (wrt T').length := by
                                    have := congrArg List.length hE1
                                    rw [List.length_drop, List.length_nil] at this
                                    omega
                                  have hmv := HMV.out
                                  rw [hE1, hE2, fsum_nil, Wt_nil] at hmv
                                  obtain ⟨e0, e1, e2, e3, e4, e5, e6, e7, e8⟩ := (HENV.out.later HSTi.out.below).cell
                                  rw [hv0] at e0
                                  rw [hv5] at e5
                                  have hbs0 := bsum_nonneg T'
                                  have hfs0 := fsum_nonneg (wrt T')
                                  have hsm := HAK.out.2.2
                                  obtain ⟨bs, hbs⟩ : ∃ bs, bsum T' = bs := ⟨_, rfl⟩
                                  obtain ⟨fs, hfs⟩ : ∃ fs, fsum (wrt T') = fs := ⟨_, rfl⟩
                                  rw [hbs] at e7 hmv hbs0 hsm
                                  rw [hfs] at e8 hmv hfs0 hsm
                                  have hmv2 : mv = bs + fs := by omega
                                  have hwm : IntKind.i64.wrap (bs + fs) = bs + fs := wrap_small _ (by omega) (by omega)
                                  clear hmv hbs hfs hsm hbs0 hfs0
                                  subst hmv2
                                  subst hnxe
                                  go_wp2_with fail
                                  go_loopw [22] (fun vk wr => ∃ (k : Nat), vk = .int .i64 (k : Int) ∧ k ≤ K.length ∧ Below w9.heap.size w9 wr) (fun vk _ => K.length - (intOf vk).toNat)
                                  case atStart => exact ⟨0, rfl, Nat.zero_le _, Below.refl _ _⟩
                                  case round =>
                                    obtain ⟨k, rfl, hk, hb⟩ := hrel
                                    have hBw : Below w5.heap.size w5 wr := HSTi.out.below.trans (hb.mono HSTi.out.below.size)
                                    have hEw := HENV.out.later hBw
                                    have s0 := hEw.cell.1
                                    have s3 := hEw.cell.2.2.2.1
                                    rw [hv0] at s0
                                    by_cases hkl : k < K.length
                                    · obtain ⟨⟨q, c'⟩, he⟩ : ∃ e, K[k]? = some e := ⟨_, List.getElem?_eq_getElem hkl⟩
                                      obtain ⟨g0, c0', g1, c1', g2, c2', g3, c3', g4, c4', u0, u1, u2, u3, u4', z0, z1, z2, z3, z4⟩ := hEw.key he
                                      rw [u3] at s3
                                      have htk : wr.ownsRow w5.heap.size 3 1 (.slice (some ⟨w8.heap.size, 0, none⟩) K.length K.length) K.length (tkd K Lw) := own4_of_block HSTi.out.tk (fun g e => hb.block g (HSTi.out.tk.lt g e).2)
                                      obtain ⟨gt, ct', hgt', zt', _⟩ := own1_at htk (k := k) (x := .int .i64 c') (by rw [hE2]; simp [tkd, he, cq, cnt])
                                      cases hgt'
                                      have HBb := hide hb
                                      clear hb hBw hEw htk z0 z1 z2 z4 u0 u1 u2 u4'
                                      go_wp2_with fail
                                      go_quiet (fail)
                                      go_wp2_with fail
                                      go_roundw
                                      case rel => exact ⟨k + 1, by go_num, by omega, Below.drewN' _ HBb.out⟩
                                      case measure => simp [intOf]; omega
                                    · have hbt := HSTi.out.bt.later hb
                                      rw [hE1, hE2] at hbt
                                      have H10 := hide (writes10 _ _ _ _ _ _ _ _ wr hbt)
                                      have H11 := hide (keys11 _ _ _ _ _ _ _ _ wr hbt)
                                      have H15 := hide (size15 _ _ _ _ _ _ _ _ wr hbt)
                                      have HBw := hide (HB5.out.trans (hBw.mono HB5.out.size))
                                      clear hbt hb hBw hEw
                                      go_wp2_with fail
                                      refine H10.out.mono ?_
                                      rintro e x ⟨rfl, rfl⟩
                                      go_wp2_with fail
                                      refine H11.out.mono ?_
                                      rintro e x2 ⟨rfl, rfl⟩
                                      go_wp2_with fail
                                      refine H15.out.mono ?_
                                      rintro e x3 ⟨rfl, rfl⟩
                                      go_wp2_with fail
                                      go_ret
                                      exact ⟨rfl, HBw.out⟩
                              · as_aux_lemma =>
                                  rw [decide_eq_false hE] at h156
                                  subst h156
                                  have hne : (wrt T').drop nx ≠ [] ∨ Lw ≠ [] := by
                                    by_cases h1 : (wrt T').drop nx = []
                                    · exact .inr (fun h2 => hE ⟨h1, h2⟩)
                                    · exact .inl h1
                                  have hbl := HSTi.out.below
                                  have H8b := hide (new8 w9 w5.heap.size hbl.size)
                                  have HNE := hide hne
                                  clear hne hE hbl
                                  go_wp2_with fail
                                  refine H8b.out.mono ?_
                                  rintro e w10 ⟨rfl, hBb, hb10, hs10⟩
                                  have hbw := HSTi.out.bt.later hb10
                                  have hWd : ((wrt T').drop nx).length ≤ 100000 := by rw [List.length_drop]; omega
                                  have H12 := hide (take12 w5.heap.size w9.heap.size w5.heap.size clk 0 vw _ m Lw _ room w10 hBb hbw (fun hbo => by have := (HSTi.out.bt.lt _ hbo).2; omega) hr0 hr1 HSTi.out.pos rfl HSTi.out.tot HSTi.out.nm (FOk_of HAK.out.2.1 nx) hWd)
                                  have HB10 := hide (And.intro hBb hb10)
                                  clear hbw hBb hb10 hs10 hWd
                                  have hwrd : IntKind.i64.wrap ((rd : Int) + 1) = (rd : Int) + 1 := wrap_small _ (by omega) (by omega)
                                  go_wp2_with fail
                                  refine H12.out.mono ?_
                                  rintro e w11 ⟨rfl, F1, F2, vb, vw', mb, m', Lb, Lw', cb, clk', hT⟩
                                  obtain ⟨hdrop, hnx', hcs, htk, hb11, hct, htt⟩ := HSTi.out.took HB10.out.2 HB10.out.1.st HSTi.out.below.size hT HNE.out
                                  obtain ⟨nb, hnb⟩ : ∃ nb, F1.length = nb := ⟨_, rfl⟩
                                  have H10b := hide (writes10 _ _ _ _ _ _ _ _ w11 hT.b)
                                  rw [hnb] at H10b hnx' hdrop
                                  have k5 := (HENV.out.later hb11).cell.2.2.2.2.2.1
                                  rw [hv5] at k5
                                  have HTK := hide hT
                                  have HRE := hide (And.intro hdrop (And.intro hcs (And.intro htk (And.intro hb11 (And.intro hct htt)))))
                                  have HNB := hide hnb
                                  have hws : IntKind.i64.wrap (((wrt T').length : Int) - (nx : Int)) = ((wrt T').length : Int) - (nx : Int) := wrap_small _ (by omega) (by omega)
                                  have hneg : ¬ ((nb : Int) < 0) := by omega
                                  have hgt : ¬ (((wrt T').length : Int) - (nx : Int) < (nb : Int)) := by omega
                                  clear hT hdrop hcs htk hb11 hct htt hnb
                                  go_wp2_with fail
                                  refine H10b.out.mono ?_
                                  rintro e w11' ⟨rfl, hwx⟩
                                  have hwx' := hwx.symm
                                  subst hwx'
                                  clear hwx
                                  go_wp2_with fail
                                  go_loopw [12, 17, 18] (fun vn vs vt wr => ∃ (t : Nat), vt = .int .i64 (t : Int) ∧ vn = .int .i64 ((nx : Int) + (t : Int)) ∧ vs = .int .i64 (fsum (F1.take t)) ∧ t ≤ nb ∧ Below w11.heap.size w11 wr) (fun _ _ vt _ => nb - (intOf vt).toNat)
                                  case atStart => exact ⟨0, rfl, by simp, rfl, Nat.zero_le _, Below.refl _ _⟩
                                  case round =>
                                    obtain ⟨t, rfl, rfl, rfl, htl, hb⟩ := hrel
                                    have hBw : Below w5.heap.size w5 wr := HRE.out.2.2.2.1.trans (hb.mono HRE.out.2.2.2.1.size)
                                    by_cases htlt : t < nb
                                    · as_aux_lemma =>
                                        have hnb := HNB.out
                                        obtain ⟨f, hf⟩ : ∃ f, F1[t]? = some f := ⟨_, List.getElem?_eq_getElem (by omega)⟩
                                        have hW : (wrt T')[nx + t]? = some f := by
                                          have h1 : ((wrt T').drop nx)[t]? = some f := by rw [HTK.out.cut, List.getElem?_append_left (by omega)]; exact hf
                                          rw [List.getElem?_drop] at h1
                                          exact h1
                                        obtain ⟨ai, g5, c5', g6, c6', hTa, u5, u6, z5, z6⟩ := (HENV.out.later hBw).wat HMO.out.2 hW
                                        have hfm := List.mem_of_getElem? hTa
                                        obtain ⟨gF, hgF, p0, p1, p2, p3⟩ := (HENV.out.later hBw).at' hTa
                                        cases hgF
                                        obtain ⟨va, vl, vc, hfv, hvc⟩ := (HENV.out.later hBw).vals f hfm
                                        have hvl : vl ≤ 1048576 := by
                                          obtain ⟨_, _, va2, vl2, vc2, e5, e6⟩ := (HAK.out.2.1 f hfm).1
                                          rw [hfv] at e5
                                          cases e5
                                          exact e6
                                        rw [hfv] at p3
                                        have hai : ai < T'.length := (List.getElem?_eq_some_iff.1 hTa).1
                                        have hnw : nx + t < (wrt T').length := (List.getElem?_eq_some_iff.1 hW).1
                                        have H13 := hide (is13 w5.heap.size w9.heap.size cb vb F1 mb Lb _ wr (HTK.out.b.later hb) t f.k f.o f.s va vl vc (by rw [hf, ← hfv]) hvl hvc.rd.1 hvc.rd.2)
                                        have s5 := (HENV.out.later hBw).cell.2.2.2.2.2.1
                                        rw [u5] at s5
                                        have hfs1 := fsum_snoc hf
                                        have hfs2 := fsum_take F1 (t + 1)
                                        have hfs3 := fsum_nonneg (F1.take t)
                                        have hfs4 : fsum F1 ≤ 1048576 := by
                                          have h1 := HRE.out.2.2.2.2.2
                                          have h2 := HSTi.out.tot
                                          have h3 := fsum_nonneg F2
                                          have h4 := Wt_nonneg (g := szk) (fun q => by have := szk_pos q; omega) HTK.out.pb'
                                          have h5 := Wt_nonneg (g := szk) (fun q => by have := szk_pos q; omega) HTK.out.pw'
                                          omega
                                        obtain ⟨xs, hxs⟩ : ∃ xs, fsum (F1.take t) = xs := ⟨_, rfl⟩
                                        rw [hxs] at hfs1 hfs3
                                        have hwa : IntKind.i64.wrap (xs + (f.sz : Int)) = xs + (f.sz : Int) := wrap_small _ (by omega) (by omega)
                                        have hwb : IntKind.i64.wrap ((nx : Int) + (t : Int) + 1) = (nx : Int) + (t : Int) + 1 := wrap_small _ (by omega) (by omega)
                                        have hidx : ((nx : Int) + (t : Int)).toNat = nx + t := by omega
                                        have hi1 : (0 : Int) ≤ (nx : Int) + (t : Int) := by omega
                                        have hi2 : (nx : Int) + (t : Int) < ((wrt T').length : Int) := by omega
                                        have HR := hide (And.intro hb (And.intro hfs1 (And.intro hBw (And.intro hW u6))))
                                        clear hb hBw hfs1 hfs2 hfs3 hfs4 hW hf hTa hvc hnb hfv
                                        rw [hxs]
                                        clear hxs
                                        go_wp2_with fail
                                        refine H13.out.mono ?_
                                        rintro e w12 ⟨rfl, hb12⟩
                                        have hB12 : Below w5.heap.size w5 w12 := HR.out.2.2.1.trans (hb12.mono HR.out.2.2.1.size)
                                        obtain ⟨ai2, g52, c52, g62, c62, hTa2, u52, u62, z52, z62⟩ := (HENV.out.later hB12).wat HMO.out.2 HR.out.2.2.2.1
                                        have s6 := (HENV.out.later hB12).cell.2.2.2.2.2.2.1
                                        rw [u62] at s6
                                        have HB12 := hide hb12
                                        clear hb12 hB12 hTa2 u52 u62 z52
                                        go_wp2_with fail
                                        go_roundw
                                        case rel =>
                                          refine ⟨t + 1, by go_num, by go_num, ?_, by omega, HR.out.1.trans (HB12.out.mono HR.out.1.size)⟩
                                          rw [HR.out.2.1]
                                        case measure => simp [intOf]; omega
                                    · as_aux_lemma =>
                                        have hte : t = nb := by omega
                                        subst hte
                                        have hF1 : F1.take t = F1 := by rw [← HNB.out]; exact List.take_length
                                        rw [hF1]
                                        obtain ⟨w13, hw13⟩ : ∃ x, x = wr := ⟨_, rfl⟩
                                        subst hw13
                                        obtain ⟨hdrop, hcs, htk, hb11, hct, htt⟩ := HRE.out
                                        have hS0 : S6 w5 w13 w9.heap.size vb F1 mb Lb cb vw' F2 m' Lw' clk' K Lw w8.heap.size 0 := by
                                          have h0 : S6 w5 w11 w9.heap.size vb F1 mb Lb cb vw' F2 m' Lw' clk' K Lw w8.heap.size 0 := ⟨HTK.out.b, HTK.out.ww, by rw [tkr_zero]; exact htk, hb11⟩
                                          exact h0.later hb
                                        have hcb0 := fun q => cq_pos HTK.out.pb' q
                                        have hcw0 := fun q => cq_pos HTK.out.pw' q
                                        have hcbT : ∀ q, cq Lb q ≤ bc T' q := fun q => by have := hcs q; have := hcw0 q; have := HSTi.out.cn q; omega
                                        have hcwT : ∀ q, cq Lw' q ≤ bc T' q := fun q => by have := hcs q; have := hcb0 q; have := HSTi.out.cn q; omega
                                        obtain ⟨hbz, hbk⟩ := b_sums HMO.out.1 HTK.out.b.dk HTK.out.pb' hcbT
                                        have hzz : 0 ≤ fsum F1 ∧ fsum F1 + Wt szk Lb ≤ 1048576 ∧ fsum F2 + Wt szk Lw' ≤ 1048576 := by
                                          have h2 := HSTi.out.tot
                                          have h3 := fsum_nonneg F2
                                          have h6 := fsum_nonneg F1
                                          have h4 := Wt_nonneg (g := szk) (fun q => by have := szk_pos q; omega) HTK.out.pb'
                                          have h5 := Wt_nonneg (g := szk) (fun q => by have := szk_pos q; omega) HTK.out.pw'
                                          omega
                                        have HS0 := hide hS0
                                        have HZ := hide (And.intro hcbT (And.intro hcwT (And.intro hbz (And.intro hbk hzz))))
                                        clear hS0 hcbT hcwT hbz hbk hzz hb hBw hF1 hdrop hcs htk hb11 hct htt hcb0 hcw0
                                        go_wp2_with fail
                                        go_loopw [17, 19, 20] (fun vs vy vk wr => ∃ (k : Nat), vk = .int .i64 (k : Int) ∧ vs = .int .i64 (fsum F1 + ksum (K.take k) (gz Lb)) ∧ vy = .int .i64 (ksum (K.take k) (gk Lb)) ∧ k ≤ K.length ∧ ksum (K.take k) (gk Lb) ≤ (k : Int) ∧ S6 w5 wr w9.heap.size vb F1 mb Lb cb vw' F2 m' Lw' clk' K Lw w8.heap.size k) (fun _ _ vk _ => K.length - (intOf vk).toNat)
                                        case atStart => exact ⟨0, rfl, by simp [ksum], rfl, Nat.zero_le _, Int.le_refl _, HS0.out⟩
                                        case round =>
                                          obtain ⟨k, rfl, rfl, rfl, hk, hgk, hS⟩ := hrel
                                          have hEw := HENV.out.later hS.below
                                          obtain ⟨e0, e1, e2, e3, e4, _⟩ := hEw.cell
                                          by_cases hkl : k < K.length
                                          · as_aux_lemma =>
                                              obtain ⟨⟨q, c'⟩, he⟩ : ∃ e, K[k]? = some e := ⟨_, List.getElem?_eq_getElem hkl⟩
                                              obtain ⟨g0, c0', g1, c1', g2, c2', g3, c3', g4, c4', u0, u1, u2, u3, u4', z0, z1, z2, z3, z4⟩ := hEw.key he
                                              rw [u0] at e0
                                              rw [u1] at e1
                                              rw [u2] at e2
                                              rw [u3] at e3
                                              rw [u4'] at e4
                                              have hw54 : w4.heap.size < w5.heap.size := heap_lt HENV.out.st
                                              have hw58 : w5.heap.size ≤ w8.heap.size := (own1_cells hS.tk).1
                                              have hg45 : g4 < w5.heap.size := by
                                                obtain ⟨_, _, _, _, _, _, _, _, g4x, _, _, _, _, _, v4x, _, _, _, _, z4x⟩ := HENV.out.key he
                                                have h1 := u4'.symm.trans v4x
                                                cases h1
                                                exact cell_lt z4x
                                              have hn84 : ¬ w8.heap.size = w4.heap.size := by omega
                                              have hn48 : ¬ w4.heap.size = w8.heap.size := by omega
                                              have hn8g : ¬ w8.heap.size = g4 := by omega
                                              have hng8 : ¬ g4 = w8.heap.size := by omega
                                              obtain ⟨gt, ct', hgt', zt', ft'⟩ := own1_at hS.tk (k := k) (x := .int .i64 (c' - cq Lw q)) (tkr_at he)
                                              cases hgt'
                                              obtain ⟨f0, hf0, hq0⟩ := HMO.out.1.src q (List.mem_map.2 ⟨_, List.mem_of_getElem? he, rfl⟩)
                                              have hKO : KOk q.1 q.2.1 q.2.2 := by rw [← hq0]; exact (HAK.out.2.1 f0 hf0).2
                                              have hc1 : c' = bc T' q := HMO.out.1.ct _ (List.mem_of_getElem? he)
                                              have hc2 : bc T' q ≤ 4096 := by have := bc_le (T := T') (i := T'.length) (q := q) hTl; rw [List.take_length] at this; exact this
                                              have hc3 := HSTi.out.cn q
                                              have hc4 := cq_pos HTK.out.pb' q
                                              have hc5 := cq_pos HTK.out.pw' q
                                              have hc6 := HRE.out.2.1 q
                                              have hkq : ksum (K.take (k + 1)) (gz Lb) = ksum (K.take k) (gz Lb) + gz Lb q := ksum_snoc he (gz Lb)
                                              have hkq2 := ksum_take (K := K) (gz0 HTK.out.pb') (k + 1)
                                              have hkq3 := ksum_nonneg (K := K.take k) (gz0 HTK.out.pb')
                                              have hgq : ksum (K.take (k + 1)) (gk Lb) = ksum (K.take k) (gk Lb) + gk Lb q := ksum_snoc he (gk Lb)
                                              have hgq2 := ksum_nonneg (K := K.take k) (gk0 Lb)
                                              obtain ⟨_, _, hbz, hbk, hz1, hz2, hz3⟩ := HZ.out
                                              have hbz' : ksum K (gz Lb) = Wt szk Lb := hbz
                                              have H14 := bare14 _ _ _ _ _ _ _ _ q.1 q.2.1 q.2.2 wr.drew hS.b.drew hKO
                                              rw [show cnt Lb q.1 q.2.1 q.2.2 = cq Lb q from rfl] at H14
                                              have hset : ∀ W : World, W.heap = wr.heap → W.os = wr.os → W.tape = wr.tape → W.output = wr.output → S6 w5 (W.setCell ⟨w8.heap.size, k, none⟩ (.int .i64 (c' - cq Lw' q))) w9.heap.size vb F1 mb Lb cb vw' F2 m' Lw' clk' K Lw w8.heap.size (k + 1) := fun W h1 h2 h3 h4 =>
                                                (hS.later (w' := W) ⟨h2, h3, h4, by rw [h1]; exact Nat.le_refl _, fun j _ => by rw [h1]⟩).set he
                                              rw [show gz Lb q = cq Lb q * szk q from rfl] at hkq
                                              rw [show gk Lb q = (if 0 < cq Lb q then 1 else 0) from rfl] at hgq
                                              obtain ⟨cb2, hcb2⟩ : ∃ x, cq Lb q = x := ⟨_, rfl⟩
                                              obtain ⟨tkv, htkv⟩ : ∃ x, c' - cq Lw q = x := ⟨_, rfl⟩
                                              obtain ⟨szq, hszq⟩ : ∃ x, szk q = x := ⟨_, rfl⟩
                                              obtain ⟨pz, hpz⟩ : ∃ x, cb2 * szq = x := ⟨_, rfl⟩
                                              rw [hcb2] at H14 hc4 hc6 hkq hgq
                                              have hpz0 : 0 ≤ pz := by
                                                rw [← hpz, ← hszq]
                                                exact Int.mul_nonneg hc4 (by have := szk_pos q; omega)
                                              rw [htkv] at zt'
                                              rw [hszq] at z4 hkq
                                              rw [hpz] at hkq
                                              have htk2 : c' - cq Lw' q = tkv + cb2 := by omega
                                              rw [htk2] at hset
                                              obtain ⟨sx, hsx⟩ : ∃ x, fsum F1 + ksum (K.take k) (gz Lb) = x := ⟨_, rfl⟩
                                              obtain ⟨kx, hkx⟩ : ∃ x, ksum (K.take k) (gk Lb) = x := ⟨_, rfl⟩
                                              have hwr1 : IntKind.i64.wrap (c' - tkv) = c' - tkv := wrap_small _ (by omega) (by omega)
                                              have hwr2 : IntKind.i64.wrap (tkv + cb2) = tkv + cb2 := wrap_small _ (by omega) (by omega)
                                              have hwr3 : IntKind.i64.wrap (cb2 * szq) = cb2 * szq := wrap_small _ (by rw [hpz]; omega) (by rw [hpz]; omega)
                                              have hwr4 : IntKind.i64.wrap (sx + cb2 * szq) = sx + cb2 * szq := wrap_small _ (by rw [hpz]; omega) (by rw [hpz]; omega)
                                              have hwr5 : IntKind.i64.wrap (kx + 1) = kx + 1 := wrap_small _ (by omega) (by omega)
                                              have d1 : decide (cb2 < 0) = false := decide_eq_false (by omega)
                                              have d2 : decide (c' - tkv < cb2) = false := decide_eq_false (by omega)
                                              have hn1 : ¬ cb2 < 0 := by omega
                                              have hn2 : ¬ c' - tkv < cb2 := by omega
                                              have hki : (0 : Int) ≤ (k : Int) := by omega
                                              have hki2 : (k : Int) < (K.length : Int) := by omega
                                              rw [hkx] at hgk hgq
                                              have H14' := hide H14
                                              have HSET := hide hset
                                              have HNX := hide (And.intro hkq (And.intro hgq (And.intro hgk (And.intro hsx hpz))))
                                              clear hw54 hw58 hg45 hpz0 H14 hset hS hEw hkq hkq2 hkq3 hgq hgq2 hbz hbk hz1 hz2 hz3 hbz' hc1 hc2 hc3 hc4 hc5 hc6 hKO hf0 hq0 u0 u1 u2 u3 u4' htkv hcb2 hszq htk2 hgk hpz
                                              rw [hsx, hkx]
                                              clear hsx hkx
                                              go_wp2_with fail
                                              go_region_held3 (fun W => W.cell? ⟨w4.heap.size, 0, none⟩ = some (.slice (some ⟨g0, 0, none⟩) K.length c0') ∧ W.cell? ⟨w4.heap.size, 1, none⟩ = some (.slice (some ⟨g1, 0, none⟩) K.length c1') ∧ W.cell? ⟨w4.heap.size, 2, none⟩ = some (.slice (some ⟨g2, 0, none⟩) K.length c2') ∧ W.cell? ⟨g0, k, none⟩ = some (.int .u8 q.1) ∧ W.cell? ⟨g1, k, none⟩ = some (.int .i64 q.2.1) ∧ W.cell? ⟨g2, k, none⟩ = some (.string q.2.2)) (first | exact ⟨e0, e1, e2, z0, z1, z2⟩ | go_keep)
                                                ((go_at_call 14; refine H14'.out.mono ?_; rintro e w14 ⟨rfl, rfl⟩))
                                              go_wp2_with fail
                                              go_quiet (fail)
                                              by_cases hpos : 0 < cb2
                                              · go_wp2_with fail
                                                go_roundw
                                                case rel =>
                                                  obtain ⟨hkq, hgq, hgk, hsx, hpz⟩ := HNX.out
                                                  rw [if_pos hpos] at hgq
                                                  refine ⟨k + 1, by go_num, ?_, ?_, by omega, by omega, HSET.out _ rfl rfl rfl rfl⟩
                                                  · rw [hkq, ← hsx, hpz]; congr 1; omega
                                                  · rw [hgq]
                                                case measure => simp [intOf]; omega
                                              · go_wp2_with fail
                                                go_roundw
                                                case rel =>
                                                  obtain ⟨hkq, hgq, hgk, hsx, hpz⟩ := HNX.out
                                                  rw [if_neg hpos] at hgq
                                                  refine ⟨k + 1, by go_num, ?_, ?_, by omega, by omega, HSET.out _ rfl rfl rfl rfl⟩
                                                  · rw [hkq, ← hsx, hpz]; congr 1; omega
                                                  · rw [hgq]; congr 1; omega
                                                case measure => simp [intOf]; omega
                                          · as_aux_lemma =>
                                              have hke : k = K.length := by omega
                                              subst hke
                                              obtain ⟨hcbT, hcwT, hbz, hbk, hz1, hz2, hz3⟩ := HZ.out
                                              obtain ⟨hdrop, hcs, htk, hb11, hct, htt⟩ := HRE.out
                                              have e17 : fsum F1 + ksum (K.take K.length) (gz Lb) = fsum F1 + Wt szk Lb := by rw [List.take_length]; rw [show ksum K (gz Lb) = Wt szk Lb from hbz]
                                              have e19 : ksum (K.take K.length) (gk Lb) = (Lb.length : Int) := by rw [List.take_length]; exact hbk
                                              rw [e17, e19]
                                              obtain ⟨n3, hn3⟩ : ∃ x, Lb.length = x := ⟨_, rfl⟩
                                              obtain ⟨zz, hzz⟩ : ∃ x, fsum F1 + Wt szk Lb = x := ⟨_, rfl⟩
                                              have H11b := keys11 _ _ _ _ _ _ _ _ wr hS.b
                                              have H15b := size15 _ _ _ _ _ _ _ _ wr hS.b
                                              rw [hn3] at H11b ⊢
                                              rw [hzz] at H15b ⊢
                                              have hmv := HMV.out
                                              have hSt2 : St w5 wr T' K w8.heap.size room (nx + t) (rd + 1) vw' m' Lw' clk' :=
                                                St.of_six hS hdrop hnx' HTK.out.pw' HTK.out.nm hcwT hct hz3
                                              have hmvn : bsum T' + fsum (wrt T') - (fsum ((wrt T').drop (nx + t)) + Wt szk Lw') = mv + zz := by
                                                rw [hdrop]
                                                omega
                                              have hmvb : -2000000 ≤ mv ∧ mv ≤ 2000000 := by
                                                have h1 := HSTi.out.tot
                                                have h2 := HAK.out.2.2
                                                have h3 := bsum_nonneg T'
                                                have h4 := fsum_nonneg (wrt T')
                                                have h5 := fsum_nonneg F2
                                                have h6 := Wt_nonneg (g := szk) (fun q => by have := szk_pos q; omega) HTK.out.pw'
                                                have h7 := Wt_nonneg (g := szk) (fun q => by have := szk_pos q; omega) HSTi.out.pos
                                                have h8 := fsum_nonneg ((wrt T').drop nx)
                                                have h9 : fsum ((wrt T').drop nx) ≤ fsum (wrt T') := by
                                                  have e := fsum_append ((wrt T').take nx) ((wrt T').drop nx)
                                                  rw [List.take_append_drop] at e
                                                  have := fsum_nonneg ((wrt T').take nx)
                                                  omega
                                                omega
                                              have hzz0 : 0 ≤ zz := by
                                                have h4 := Wt_nonneg (g := szk) (fun q => by have := szk_pos q; omega) HTK.out.pb'
                                                omega
                                              have hwmv : IntKind.i64.wrap (mv + zz) = mv + zz := wrap_small _ (by omega) (by omega)
                                              have hsome : t ≠ 0 ∨ n3 ≠ 0 := by
                                                rcases HTK.out.some' HNE.out with h1 | h1
                                                · left
                                                  intro h2
                                                  exact h1 (List.length_eq_zero_iff.1 (by have := HNB.out; omega))
                                                · right
                                                  intro h2
                                                  exact h1 (List.length_eq_zero_iff.1 (by omega))
                                              have hfit : zz ≤ room ∨ (n3 = 0 ∧ t ≤ 1) := by
                                                rcases HTK.out.fit with h1 | ⟨h1, h2⟩
                                                · left; omega
                                                · right
                                                  refine ⟨by rw [← hn3, h1]; rfl, by have := HNB.out; omega⟩
                                              have e0' := e0
                                              rw [hv0] at e0'
                                              have H11c := hide H11b
                                              have H15c := hide H15b
                                              have HST2 := hide (And.intro hSt2 hmvn)
                                              clear H11b H15b hSt2 hmvn hmvb hS hEw hcbT hcwT hbz hbk hz1 hz2 hz3 hdrop hcs htk hb11 hct htt e17 e19 hn3 hzz e0 e1 e2 e3 e4 hmv hgk
                                              go_wp2_with fail
                                              refine H11c.out.mono ?_
                                              rintro e x ⟨rfl, hx⟩
                                              have hx' := hx.symm
                                              subst hx'
                                              clear hx
                                              go_wp2_with fail
                                              refine H15c.out.mono ?_
                                              rintro e x ⟨rfl, hx⟩
                                              have hx' := hx.symm
                                              subst hx'
                                              clear hx
                                              by_cases ht0 : t = 0
                                              · have q1 : ((t : Int) == 0) = true := by rw [beq_iff_eq]; omega
                                                have q2 : ((n3 : Int) == 0) = false := by rw [beq_eq_false_iff_ne]; omega
                                                have q3 : ¬ room < zz := by omega
                                                have q4 : decide (room < zz) = false := decide_eq_false q3
                                                clear ht0
                                                go_wp2_with fail
                                                go_roundw
                                                case rel => exact ⟨nx + t, rd + 1, vw', m', Lw', clk', by go_num, by rw [HST2.out.2], by go_num, HST2.out.1⟩
                                                case measure => simp [intOf]; omega
                                              · have q1 : ((t : Int) == 0) = false := by rw [beq_eq_false_iff_ne]; omega
                                                by_cases hzr : room < zz
                                                · have q2 : ((n3 : Int) == 0) = true := by rw [beq_iff_eq]; omega
                                                  have q3 : ((t : Int) == 1) = true := by rw [beq_iff_eq]; omega
                                                  have q4 : decide (room < zz) = true := decide_eq_true hzr
                                                  clear ht0
                                                  go_wp2_with fail
                                                  go_roundw
                                                  case rel => exact ⟨nx + t, rd + 1, vw', m', Lw', clk', by go_num, by rw [HST2.out.2], by go_num, HST2.out.1⟩
                                                  case measure => simp [intOf]; omega
                                                · have q4 : decide (room < zz) = false := decide_eq_false hzr
                                                  clear ht0
                                                  go_wp2_with fail
                                                  go_roundw
                                                  case rel => exact ⟨nx + t, rd + 1, vw', m', Lw', clk', by go_num, by rw [HST2.out.2], by go_num, HST2.out.1⟩
                                                  case measure => simp [intOf]; omega

end Go.Proofs.Qxb6609323a
