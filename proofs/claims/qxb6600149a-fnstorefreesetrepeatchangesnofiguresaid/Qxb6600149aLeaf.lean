import Derived.Test.Qxb6600149aRows
import Derived.WalkKit
import Derived.WalkSpells
import Derived.WalkLawsBesides
import Derived.Deep.QuietTactic
import Derived.Deep.OwnRows
import Derived.BigQuiet
import Derived.Lib.Slices
import Derived.Lib.SliceRun
namespace Go.Proofs.Qxb6600149a
open Go.RowKit
set_option linter.unusedVariables false

theorem hide {p : Prop} (h : p) : Hid p := h

/-- the slice v reads as the numbers xs in w -/
def Reads (k : IntKind) (w : World) (v : Value) (xs : List Int) : Prop :=
  ∃ a c, v = .slice a xs.length c ∧ (xs = [] ∨ ∃ b off, a = some ⟨b, off, none⟩) ∧ ∀ b off, a = some ⟨b, off, none⟩ → ∀ i, i < xs.length → w.cell? ⟨b, off + i, none⟩ = some (.int k (xs.getD i 0))

theorem cell_lt {w : World} {a : Addr} {v : Value} (h : w.cell? a = some v) : a.block < w.heap.size := by
  simp only [World.cell?] at h
  by_cases hc : a.block < w.heap.size
  · exact hc
  · rw [Array.getElem?_eq_none (by omega)] at h; simp at h

theorem Reads.later {k : IntKind} {w w' : World} {v : Value} {xs : List Int} (h : Reads k w v xs) (hb : Below w.heap.size w w') : Reads k w' v xs := by
  obtain ⟨a, c, rfl, hn, hx⟩ := h
  refine ⟨a, c, rfl, hn, fun b off e i hi => ?_⟩
  have h0 := hx b off e i hi
  rw [hb.cell (cell_lt h0)]
  exact h0

theorem Reads.at {k : IntKind} {w : World} {v : Value} {xs : List Int} (h : Reads k w v xs) :
    ∃ a c, v = .slice a xs.length c ∧ (0 < xs.length → ∃ b off, a = some ⟨b, off, none⟩ ∧ ∀ i, i < xs.length → w.cell? ⟨b, off + i, none⟩ = some (.int k (xs.getD i 0))) := by
  obtain ⟨a, c, rfl, hn, hx⟩ := h
  refine ⟨a, c, rfl, fun hl => ?_⟩
  rcases hn with rfl | ⟨b, off, rfl⟩
  · simp at hl
  · exact ⟨b, off, rfl, hx b off rfl⟩

theorem info43 : (Try.prog.info? 43).map (fun i => (i.zero, i.size, i.bytes)) = some (some (.int .u32 0), 1, 4) := by kernel_rfl
theorem info44 : (Try.prog.info? 44).map (fun i => (i.zero, i.size, i.bytes)) = some (some (.int .i16 0), 1, 2) := by kernel_rfl
theorem info38 : (Try.prog.info? 38).map (fun i => (i.zero, i.size, i.bytes)) = some (some (.int .u64 0), 1, 8) := by kernel_rfl

set_option maxHeartbeats 400000 in
theorem bytes29 (a0 a1 : Option Addr) (l0 c0 l1 c1 : Nat) (x y : Int) (w : World) (h0 : l0 ≤ maxLen) (h1 : l1 ≤ maxLen) :
    Calls Try.prog 29 #[.slice a0 l0 c0, .slice a1 l1 c1, .int .u32 x, .int .i16 y] w fun e w' => ∃ b, e = .returned (.bool b) ∧ w' = w := by
  unfold maxLen at h0 h1
  go_enter Try.func29, Try.ntmps29
  go_wp2
  all_goals (go_ret; exact ⟨_, rfl, rfl⟩)

/-- the row made, filled as far as k -/
def fill (k : IntKind) (xs : List Int) (n : Nat) (i : Nat) : Value := .int k (if i < n then xs.getD i 0 else 0)

set_option maxHeartbeats 1000000 in
theorem clone19 (v : Value) (xs : List Int) (w : World) (hv : Reads .i16 w v xs) (hl : xs.length ≤ 1048576) :
    Calls Try.prog 19 #[v] w fun e w' => ∃ r, e = .returned r ∧ Reads .i16 w' r xs ∧ Below w.heap.size w w' ∧ ∀ a l c, r = .slice (some a) l c → w.heap.size ≤ a.block := by
  have HV := hide hv
  obtain ⟨a, c, rfl, hx⟩ := hv.at
  clear hv
  have HX := hide hx
  clear hx
  cases a with
  | none =>
    have hx0 : xs = [] := by
      cases hh : xs with
      | nil => rfl
      | cons y ys => obtain ⟨b, off, e, _⟩ := HX.out (by simp [hh]); cases e
    subst hx0
    have hnil : ∀ W n c, (binOp .eql 32 (.slice none n c) (.slice none 0 0)).run Try.prog W = .ok (.bool true) W := fun W n c => Lib.run_eql_slice_nil W _ _ none n c 0 0 Try.underlying32
    go_enter Try.func19, Try.ntmps19
    go_wp2
    go_ret
    exact ⟨_, rfl, ⟨none, 0, rfl, .inl rfl, fun _ _ e => by cases e⟩, Below.refl _ _, fun a l c e => by cases e⟩
  | some ad =>
    have hnil : ∀ W n c, (binOp .eql 32 (.slice (some ad) n c) (.slice none 0 0)).run Try.prog W = .ok (.bool false) W := fun W n c => Lib.run_eql_slice_nil W _ _ (some ad) n c 0 0 Try.underlying32
    have hm := fun w => Go.run_make_row' (P := Try.prog) 32 44 _ 2 Try.underlying32 info44 rfl .i64 .i64 xs.length (by omega) (by omega) w
    go_enter Try.func19, Try.ntmps19
    go_wp2
    go_loopw [4] (fun i wr => ∃ k : Nat, k ≤ xs.length ∧ i = .int .i64 k ∧ wr.rowIs w.heap.size 44 xs.length (fill .i16 xs k) ∧ Below w.heap.size w wr) (fun i _ => xs.length - (intOf i).toNat)
    case atStart => exact ⟨0, Nat.zero_le _, rfl, (World.rowIs_made w (.int .i16 0) xs.length 44).congr (fun i _ => by simp [fill]), (Below.refl _ _).alloc (Nat.le_refl _) _⟩
    case round =>
      obtain ⟨k, hk, rfl, hrow, hb⟩ := hrel
      by_cases hlt : k < xs.length
      · obtain ⟨b, off, e, g⟩ := HX.out (by omega)
        cases e
        have h1 : wr.cell? ⟨b, off + k, none⟩ = some (.int .i16 (xs.getD k 0)) := (hb.cell (p := ⟨b, off + k, none⟩) (cell_lt (g k hlt))).trans (g k hlt)
        have h2 : wr.cell? ⟨w.heap.size, k, none⟩ = some (fill .i16 xs k k) := hrow.cell hlt
        have h3 := hrow.frozen k
        have hlt' : (k : Int) < (xs.length : Int) := by omega
        have HROW := hide hrow
        unfold fill at h2
        clear g hrow
        go_wp2
        go_roundw
        case rel =>
          refine ⟨k + 1, by omega, by go_num, (HROW.out.set k _).congr (fun i hi => ?_), hb.setCell (Nat.le_refl _) _⟩
          unfold fill
          by_cases e : i = k
          · subst e; simp [hi]
          · by_cases e2 : i < k
            · simp [e, e2, show i < k + 1 by omega]
            · simp [e, e2, show ¬ i < k + 1 by omega]
        case measure => simp [intOf]; omega
      · have hke : k = xs.length := by omega
        have HKE := hide hke
        have HROW := hide hrow
        clear hke hrow
        go_wp2
        go_ret
        refine ⟨_, rfl, ⟨_, _, rfl, .inr ⟨_, _, rfl⟩, fun b off e i hi => ?_⟩, hb, fun a l c e => by cases e; exact Nat.le_refl _⟩
        cases e
        have := HROW.out.cell hi
        rw [Nat.zero_add, this]
        simp [fill, HKE.out, hi]

set_option maxHeartbeats 1000000 in
theorem clone18 (v : Value) (xs : List Int) (w : World) (hv : Reads .u32 w v xs) (hl : xs.length ≤ 1048576) :
    Calls Try.prog 18 #[v] w fun e w' => ∃ r, e = .returned r ∧ Reads .u32 w' r xs ∧ Below w.heap.size w w' ∧ ∀ a l c, r = .slice (some a) l c → w.heap.size ≤ a.block := by
  have HV := hide hv
  obtain ⟨a, c, rfl, hx⟩ := hv.at
  clear hv
  have HX := hide hx
  clear hx
  cases a with
  | none =>
    have hx0 : xs = [] := by
      cases hh : xs with
      | nil => rfl
      | cons y ys => obtain ⟨b, off, e, _⟩ := HX.out (by simp [hh]); cases e
    subst hx0
    have hnil : ∀ W n c, (binOp .eql 31 (.slice none n c) (.slice none 0 0)).run Try.prog W = .ok (.bool true) W := fun W n c => Lib.run_eql_slice_nil W _ _ none n c 0 0 Try.underlying31
    go_enter Try.func18, Try.ntmps18
    go_wp2
    go_ret
    exact ⟨_, rfl, ⟨none, 0, rfl, .inl rfl, fun _ _ e => by cases e⟩, Below.refl _ _, fun a l c e => by cases e⟩
  | some ad =>
    have hnil : ∀ W n c, (binOp .eql 31 (.slice (some ad) n c) (.slice none 0 0)).run Try.prog W = .ok (.bool false) W := fun W n c => Lib.run_eql_slice_nil W _ _ (some ad) n c 0 0 Try.underlying31
    have hm := fun w => Go.run_make_row' (P := Try.prog) 31 43 _ 4 Try.underlying31 info43 rfl .i64 .i64 xs.length (by omega) (by omega) w
    go_enter Try.func18, Try.ntmps18
    go_wp2
    go_loopw [4] (fun i wr => ∃ k : Nat, k ≤ xs.length ∧ i = .int .i64 k ∧ wr.rowIs w.heap.size 43 xs.length (fill .u32 xs k) ∧ Below w.heap.size w wr) (fun i _ => xs.length - (intOf i).toNat)
    case atStart => exact ⟨0, Nat.zero_le _, rfl, (World.rowIs_made w (.int .u32 0) xs.length 43).congr (fun i _ => by simp [fill]), (Below.refl _ _).alloc (Nat.le_refl _) _⟩
    case round =>
      obtain ⟨k, hk, rfl, hrow, hb⟩ := hrel
      by_cases hlt : k < xs.length
      · obtain ⟨b, off, e, g⟩ := HX.out (by omega)
        cases e
        have h1 : wr.cell? ⟨b, off + k, none⟩ = some (.int .u32 (xs.getD k 0)) := (hb.cell (p := ⟨b, off + k, none⟩) (cell_lt (g k hlt))).trans (g k hlt)
        have h2 : wr.cell? ⟨w.heap.size, k, none⟩ = some (fill .u32 xs k k) := hrow.cell hlt
        have h3 := hrow.frozen k
        have hlt' : (k : Int) < (xs.length : Int) := by omega
        have HROW := hide hrow
        unfold fill at h2
        clear g hrow
        go_wp2
        go_roundw
        case rel =>
          refine ⟨k + 1, by omega, by go_num, (HROW.out.set k _).congr (fun i hi => ?_), hb.setCell (Nat.le_refl _) _⟩
          unfold fill
          by_cases e : i = k
          · subst e; simp [hi]
          · by_cases e2 : i < k
            · simp [e, e2, show i < k + 1 by omega]
            · simp [e, e2, show ¬ i < k + 1 by omega]
        case measure => simp [intOf]; omega
      · have hke : k = xs.length := by omega
        have HKE := hide hke
        have HROW := hide hrow
        clear hke hrow
        go_wp2
        go_ret
        refine ⟨_, rfl, ⟨_, _, rfl, .inr ⟨_, _, rfl⟩, fun b off e i hi => ?_⟩, hb, fun a l c e => by cases e; exact Nat.le_refl _⟩
        cases e
        have := HROW.out.cell hi
        rw [Nat.zero_add, this]
        simp [fill, HKE.out, hi]


set_option maxHeartbeats 1000000 in
theorem clone30 (v : Value) (xs : List Int) (w : World) (hv : Reads .u64 w v xs) (hl : xs.length ≤ 1048576) :
    Calls Try.prog 30 #[v] w fun e w' => ∃ r, e = .returned r ∧ Reads .u64 w' r xs ∧ Below w.heap.size w w' ∧ ∀ a l c, r = .slice (some a) l c → w.heap.size ≤ a.block := by
  have HV := hide hv
  obtain ⟨a, c, rfl, hx⟩ := hv.at
  clear hv
  have HX := hide hx
  clear hx
  cases a with
  | none =>
    have hx0 : xs = [] := by
      cases hh : xs with
      | nil => rfl
      | cons y ys => obtain ⟨b, off, e, _⟩ := HX.out (by simp [hh]); cases e
    subst hx0
    have hnil : ∀ W n c, (binOp .eql 37 (.slice none n c) (.slice none 0 0)).run Try.prog W = .ok (.bool true) W := fun W n c => Lib.run_eql_slice_nil W _ _ none n c 0 0 Try.underlying37
    go_enter Try.func30, Try.ntmps30
    go_wp2
    go_ret
    exact ⟨_, rfl, ⟨none, 0, rfl, .inl rfl, fun _ _ e => by cases e⟩, Below.refl _ _, fun a l c e => by cases e⟩
  | some ad =>
    have hnil : ∀ W n c, (binOp .eql 37 (.slice (some ad) n c) (.slice none 0 0)).run Try.prog W = .ok (.bool false) W := fun W n c => Lib.run_eql_slice_nil W _ _ (some ad) n c 0 0 Try.underlying37
    have hm := fun w => Go.run_make_row' (P := Try.prog) 37 38 _ 8 Try.underlying37 info38 rfl .i64 .i64 xs.length (by omega) (by omega) w
    go_enter Try.func30, Try.ntmps30
    go_wp2
    go_loopw [4] (fun i wr => ∃ k : Nat, k ≤ xs.length ∧ i = .int .i64 k ∧ wr.rowIs w.heap.size 38 xs.length (fill .u64 xs k) ∧ Below w.heap.size w wr) (fun i _ => xs.length - (intOf i).toNat)
    case atStart => exact ⟨0, Nat.zero_le _, rfl, (World.rowIs_made w (.int .u64 0) xs.length 38).congr (fun i _ => by simp [fill]), (Below.refl _ _).alloc (Nat.le_refl _) _⟩
    case round =>
      obtain ⟨k, hk, rfl, hrow, hb⟩ := hrel
      by_cases hlt : k < xs.length
      · obtain ⟨b, off, e, g⟩ := HX.out (by omega)
        cases e
        have h1 : wr.cell? ⟨b, off + k, none⟩ = some (.int .u64 (xs.getD k 0)) := (hb.cell (p := ⟨b, off + k, none⟩) (cell_lt (g k hlt))).trans (g k hlt)
        have h2 : wr.cell? ⟨w.heap.size, k, none⟩ = some (fill .u64 xs k k) := hrow.cell hlt
        have h3 := hrow.frozen k
        have hlt' : (k : Int) < (xs.length : Int) := by omega
        have HROW := hide hrow
        unfold fill at h2
        clear g hrow
        go_wp2
        go_roundw
        case rel =>
          refine ⟨k + 1, by omega, by go_num, (HROW.out.set k _).congr (fun i hi => ?_), hb.setCell (Nat.le_refl _) _⟩
          unfold fill
          by_cases e : i = k
          · subst e; simp [hi]
          · by_cases e2 : i < k
            · simp [e, e2, show i < k + 1 by omega]
            · simp [e, e2, show ¬ i < k + 1 by omega]
        case measure => simp [intOf]; omega
      · have hke : k = xs.length := by omega
        have HKE := hide hke
        have HROW := hide hrow
        clear hke hrow
        go_wp2
        go_ret
        refine ⟨_, rfl, ⟨_, _, rfl, .inr ⟨_, _, rfl⟩, fun b off e i hi => ?_⟩, hb, fun a l c e => by cases e; exact Nat.le_refl _⟩
        cases e
        have := HROW.out.cell hi
        rw [Nat.zero_add, this]
        simp [fill, HKE.out, hi]


set_option maxHeartbeats 400000 in
theorem calls20 (a0 a1 : Option Addr) (l0 c0 l1 c1 : Nat) (w : World) (h0 : l0 ≤ 1048576) (h1 : l1 ≤ 1048576) :
    Calls Try.prog 20 #[.slice a0 l0 c0, .slice a1 l1 c1] w fun e w' => e = .returned (.int .i64 (Nat.min l0 l1 : Nat)) ∧ w' = w := by
  by_cases h : l1 < l0
  · have e : Nat.min l0 l1 = l1 := Nat.min_eq_right (by omega)
    rw [e]
    go_enter Try.func20, Try.ntmps20
    go_wp2
    go_ret
    exact ⟨rfl, rfl⟩
  · have e : Nat.min l0 l1 = l0 := Nat.min_eq_left (by omega)
    rw [e]
    go_enter Try.func20, Try.ntmps20
    go_wp2
    go_ret
    exact ⟨rfl, rfl⟩

set_option maxHeartbeats 400000 in
/-- zzb1EqualI16 of two slices that read alike -/
theorem eq_true (v u : Value) (xs : List Int) (w : World) (hv : Reads .i16 w v xs) (hu : Reads .i16 w u xs) (hl : xs.length ≤ 4194304) :
    Calls Try.prog 31 #[v, u] w fun e w' => e = .returned (.bool true) ∧ ∃ n, w' = w.drewN n := by
  obtain ⟨a, c, rfl, hx⟩ := hv.at
  obtain ⟨a', c', rfl, hx'⟩ := hu.at
  clear hv hu
  have HX := hide hx
  have HX' := hide hx'
  clear hx hx'
  have hne : ((xs.length : Int) != (xs.length : Int)) = false := by simp
  go_enter Try.func31, Try.ntmps31
  go_wp2
  go_loopw [5] (fun i wr => ∃ k : Nat, k ≤ xs.length ∧ i = .int .i64 k ∧ ∃ n, wr = w.drewN n) (fun i _ => xs.length - (intOf i).toNat)
  case atStart => exact ⟨0, Nat.zero_le _, rfl, 0, rfl⟩
  case round =>
    obtain ⟨k, hk, rfl, n, rfl⟩ := hrel
    by_cases hlt : k < xs.length
    · have hlt' : (k : Int) < (xs.length : Int) := by omega
      obtain ⟨b, off, rfl, g⟩ := HX.out (by omega)
      obtain ⟨b', off', rfl, g'⟩ := HX'.out (by omega)
      have h1 := g k hlt
      have h2 := g' k hlt
      have hq : (xs[k]?.getD 0 != xs[k]?.getD 0) = false := by simp
      clear g g' HX HX'
      go_wp2
      go_quiet (fail)
      go_wp2
      go_roundw
      case rel => exact ⟨k + 1, by omega, by go_num, _, rfl⟩
      case measure => simp [intOf]; omega
    · go_wp2
      go_ret
      exact ⟨rfl, n, rfl⟩

/-- the first m pages lie in 1 .. 1<<16 -/
def Fits (xs : List Int) (m : Nat) : Prop := ∀ i, i < m → (1 : Int) ≤ xs.getD i 0 ∧ xs.getD i 0 ≤ 65536

set_option maxHeartbeats 1000000 in
/-- zzb1ScriptFits: where it answers yes, every page of the script's calls lies in 1 .. 1<<16 -/
theorem fits17 (v u : Value) (xs ys : List Int) (w : World) (hv : Reads .u32 w v xs) (hu : Reads .i16 w u ys) (h0 : xs.length ≤ 1048576) (h1 : ys.length ≤ 1048576) (hnn : ∀ i, i < xs.length → 0 ≤ xs.getD i 0) :
    Calls Try.prog 17 #[v, u] w fun e w' => w' = w ∧ (e = .returned (.bool false) ∨ (e = .returned (.bool true) ∧ Fits xs (Nat.min xs.length ys.length))) := by
  obtain ⟨a, c, rfl, hx⟩ := hv.at
  obtain ⟨a', c', rfl, _⟩ := hu.at
  clear hv hu
  have HX := hide hx
  clear hx
  by_cases hl0 : (65536 : Int) < (xs.length : Int)
  · have hd0 : decide ((65536 : Int) < (xs.length : Int)) = true := decide_eq_true hl0
    clear hl0
    go_enter Try.func17, Try.ntmps17
    go_wp2
    go_ret
    exact ⟨rfl, .inl rfl⟩
  have hd0 : decide ((65536 : Int) < (xs.length : Int)) = false := decide_eq_false hl0
  by_cases hl1 : (65536 : Int) < (ys.length : Int)
  · have hd1 : decide ((65536 : Int) < (ys.length : Int)) = true := decide_eq_true hl1
    clear hl1 hl0
    go_enter Try.func17, Try.ntmps17
    go_wp2
    go_ret
    exact ⟨rfl, .inl rfl⟩
  have hd1 : decide ((65536 : Int) < (ys.length : Int)) = false := decide_eq_false hl1
  clear hl0 hl1
  obtain ⟨m, hm⟩ : ∃ m, m = Nat.min xs.length ys.length := ⟨_, rfl⟩
  rw [← hm]
  have hml : m ≤ xs.length := by rw [hm]; exact Nat.min_le_left _ _
  by_cases hlt : ys.length < xs.length
  all_goals
    first
      | have hmy : m = ys.length := by rw [hm]; exact Nat.min_eq_right (by omega)
      | have hmy : m = xs.length := by rw [hm]; exact Nat.min_eq_left (by omega)
    have HMY := hide hmy
    have HNON := hide hnn
    clear hmy hm hnn
    go_enter Try.func17, Try.ntmps17
    go_wp2
    go_loop [6] (fun i => ∃ k : Nat, k ≤ m ∧ i = .int .i64 k ∧ Fits xs k) (fun i => m - (intOf i).toNat)
    case atStart => exact ⟨0, Nat.zero_le _, rfl, fun j h => absurd h (by omega)⟩
    case round =>
      obtain ⟨k, hk, rfl, hall⟩ := hrel
      have HALL := hide hall
      clear hall
      by_cases hkm : k < m
      · obtain ⟨b, off, rfl, g⟩ := HX.out (by omega)
        obtain ⟨z, hz⟩ : ∃ z, z = xs.getD k 0 := ⟨_, rfl⟩
        have g1 : w.cell? ⟨b, off + k, none⟩ = some (.int .u32 z) := by rw [hz]; exact g k (by omega)
        have hkx : (k : Int) < (xs.length : Int) := by omega
        have hkd := hkm
        rw [HMY.out] at hkd
        have HNN := hide (show 0 ≤ z by rw [hz]; exact HNON.out k (by omega))
        have HZ := hide hz
        have HK := hide hkm
        clear g hz hkm
        by_cases hz0 : z = 0
        · have hz' : (z == 0) = true := by simpa using hz0
          clear hz0
          go_wp2
          go_ret
          exact ⟨rfl, .inl rfl⟩
        · have hz' : (z == 0) = false := by simpa using hz0
          by_cases hz1 : 65536 < z
          · have hz2 : decide (65536 < z) = true := decide_eq_true hz1
            clear hz0 hz1
            go_wp2
            go_ret
            exact ⟨rfl, .inl rfl⟩
          · have hz2 : decide (65536 < z) = false := decide_eq_false hz1
            have H01 := hide (And.intro hz0 hz1)
            clear hz0 hz1
            go_wp2
            go_round
            case rel =>
              refine ⟨k + 1, by have := HK.out; omega, by go_num, fun j hj => ?_⟩
              by_cases hjk : j < k
              · exact HALL.out j hjk
              · have hje : j = k := by omega
                subst hje
                have h1 := HZ.out
                have h2 := H01.out
                have h3 := HNN.out
                rw [← h1]
                omega
            case measure => have := HK.out; simp [intOf]; omega
      · have hkd := hkm
        rw [HMY.out] at hkd
        have hke : k = m := by omega
        have HKE := hide hke
        clear hke hkm
        go_wp2
        go_ret
        exact ⟨rfl, .inr ⟨rfl, by rw [← HKE.out]; exact HALL.out⟩⟩

end Go.Proofs.Qxb6600149a
