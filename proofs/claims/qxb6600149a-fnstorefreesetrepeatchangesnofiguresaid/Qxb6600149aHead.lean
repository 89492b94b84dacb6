import Derived.Test.Qxb6600149aRows
import Derived.JoinedOf
namespace Go.Proofs.Qxb6600149a

theorem and_mk {a b : Bool} (ha : a = true) (hb : b = true) : (a && b) = true := by rw [ha, hb]; rfl

/-- a word and what follows it -/
theorem words_cons : ∀ (a r : List Char), (∀ c ∈ a, c ≠ ' ') → wordsSigns (a ++ ' ' :: r) = a :: wordsSigns r
  | [], r, _ => by simp [wordsSigns]
  | c :: a, r, h => by
    have ih := words_cons a r (fun x hx => h x (by simp [hx]))
    have hc : c ≠ ' ' := h c (by simp)
    show wordsSigns (c :: (a ++ ' ' :: r)) = _
    rw [wordsSigns, ih]
    exact hc

theorem head_words (l : List Char) (s : List Char) (h1 : l.take 8 = ['h', 'a', 'r', 'n', 'e', 's', 's', ' ']) (h2 : (l.drop 8).take 65 = s ++ [' ']) (h3 : (l.drop 73).take 4 = ['c', 'u', 't', ' '])
    (hs : isSumSigns s = true) (hb : ∀ c ∈ s, c ≠ ' ') : ∃ r, behindMainWord (wordsSigns l) = ['c', 'u', 't'] :: r := by
  have e3 : l.drop 73 = ['c', 'u', 't'] ++ ' ' :: (l.drop 73).drop 4 := by
    have := List.take_append_drop 4 (l.drop 73)
    rw [h3] at this
    exact this.symm
  have e2 : l.drop 8 = s ++ ' ' :: l.drop 73 := by
    have := List.take_append_drop 65 (l.drop 8)
    rw [h2, List.drop_drop] at this
    rw [← this]
    simp
  have e1 : l = ['h', 'a', 'r', 'n', 'e', 's', 's'] ++ ' ' :: l.drop 8 := by
    have := List.take_append_drop 8 l
    rw [h1] at this
    exact this.symm
  rw [e1, words_cons _ _ (by decide), e2, words_cons _ _ hb, e3, words_cons _ _ (by decide)]
  refine ⟨wordsSigns ((l.drop 73).drop 4), ?_⟩
  show (if (((['h', 'a', 'r', 'n', 'e', 's', 's'] : List Char) == "harness".toList || (['h', 'a', 'r', 'n', 'e', 's', 's'] : List Char) == "ownmain".toList) && isSumSigns s) = true then _ else _) = _
  rw [if_pos]
  rw [hs]
  decide

/-- the signs of the program's head -/
def headSigns : List Char := ['h', 'a', 'r', 'n', 'e', 's', 's', ' ', 'c', '2', 'e', '1', '9', '1', 'b', 'a', '2', '6', '3', '0', 'b', '0', '4', '8', '9', 'e', '5', '1', '7', 'b', '7', '2', 'd', 'f', 'e', '6', '3', '5', '1', 'f', '4', '2', '6', '7', 'f', 'd', '8', '6', '5', 'a', 'c', 'c', 'a', '6', '8', '1', 'a', '3', '2', 'a', 'b', 'c', 'd', 'b', '8', '0', 'f', '8', '3', 'b', '8', '4', ' ', 'c', 'u', 't', ' ', 'a', 't', ' ', 'e', 'x', 'a', 'm', 'p', 'l', 'e', '.', 'c', 'o', 'm', '/', 'p', 'a', 'g', 'e', 'w', 'a', 'r', 'd', 'e', 'n', '/', 'p', 'a', 'g', 'e', 'w', 'a', 'r', 'd', 'e', 'n', '/', 'z', 'z', 'l', 'a', 'w', 's', '_', 'r', 'o', 'o', 't', '_', 'b', '1', '.', 'F', 'n', 'T', 'x', 'F', 'r', 'e', 'e', 'B', 'l', 'o', 'c', 'k', 'M', 'a', 't', 'c', 'h', 'e', 's', 'L', 'i', 'n', 'e', 'a', 'r', 'S', 'c', 'a', 'n', ' ', 'e', 'x', 'a', 'm', 'p', 'l', 'e', '.', 'c', 'o', 'm', '/', 'p', 'a', 'g', 'e', 'w', 'a', 'r', 'd', 'e', 'n', '/', 'p', 'a', 'g', 'e', 'w', 'a', 'r', 'd', 'e', 'n', '/', 'z', 'z', 'l', 'a', 'w', 's', '_', 'r', 'o', 'o', 't', '_', 'b', '1', '.', 'F', 'n', 'T', 'x', 'F', 'r', 'e', 'e', 'B', 'l', 'o', 'c', 'k', 'F', 'i', 'n', 'd', 's', 'E', 'v', 'e', 'r', 'y', 'V', 'i', 'e', 'w', ' ', 'e', 'x', 'a', 'm', 'p', 'l', 'e', '.', 'c', 'o', 'm', '/', 'p', 'a', 'g', 'e', 'w', 'a', 'r', 'd', 'e', 'n', '/', 'p', 'a', 'g', 'e', 'w', 'a', 'r', 'd', 'e', 'n', '/', 'z', 'z', 'l', 'a', 'w', 's', '_', 'r', 'o', 'o', 't', '_', 'b', '1', '.', 'F', 'n', 'T', 'x', 'F', 'r', 'e', 'e', 'B', 'l', 'o', 'c', 'k', 'M', 'o', 'n', 'o', 't', 'o', 'n', 'e', ' ', 'e', 'x', 'a', 'm', 'p', 'l', 'e', '.', 'c', 'o', 'm', '/', 'p', 'a', 'g', 'e', 'w', 'a', 'r', 'd', 'e', 'n', '/', 'p', 'a', 'g', 'e', 'w', 'a', 'r', 'd', 'e', 'n', '/', 'z', 'z', 'l', 'a', 'w', 's', '_', 'r', 'o', 'o', 't', '_', 'b', '1', '.', 'F', 'n', 'S', 't', 'o', 'r', 'e', 'F', 'r', 'e', 'e', 'S', 'e', 't', 'K', 'e', 'e', 'p', 's', 'B', 'l', 'o', 'c', 'k', 'M', 'a', 'x', 'i', 'm', 'a', ' ', 'e', 'x', 'a', 'm', 'p', 'l', 'e', '.', 'c', 'o', 'm', '/', 'p', 'a', 'g', 'e', 'w', 'a', 'r', 'd', 'e', 'n', '/', 'p', 'a', 'g', 'e', 'w', 'a', 'r', 'd', 'e', 'n', '/', 'z', 'z', 'l', 'a', 'w', 's', '_', 'r', 'o', 'o', 't', '_', 'b', '1', '.', 'F', 'n', 'S', 't', 'o', 'r', 'e', 'F', 'r', 'e', 'e', 'S', 'e', 't', 'M', 'a', 't', 'c', 'h', 'e', 's', 'L', 'a', 's', 't', 'W', 'r', 'i', 't', 'e', 'M', 'o', 'd', 'e', 'l', ' ', 'e', 'x', 'a', 'm', 'p', 'l', 'e', '.', 'c', 'o', 'm', '/', 'p', 'a', 'g', 'e', 'w', 'a', 'r', 'd', 'e', 'n', '/', 'p', 'a', 'g', 'e', 'w', 'a', 'r', 'd', 'e', 'n', '/', 'z', 'z', 'l', 'a', 'w', 's', '_', 'r', 'o', 'o', 't', '_', 'b', '1', '.', 'F', 'n', 'S', 't', 'o', 'r', 'e', 'F', 'r', 'e', 'e', 'S', 'e', 't', 'R', 'e', 'p', 'e', 'a', 't', 'C', 'h', 'a', 'n', 'g', 'e', 's', 'N', 'o', 'F', 'i', 'g', 'u', 'r', 'e']

theorem head_signs : Try.pinned.checked.prog.initOrder = String.ofList headSigns := by kernel_rfl

theorem head_cut : ∃ r, behindMainWord (wordsSigns Try.pinned.checked.prog.initOrder.toList) = ['c', 'u', 't'] :: r := by
  rw [head_signs, String.toList_ofList]
  exact head_words headSigns ['c', '2', 'e', '1', '9', '1', 'b', 'a', '2', '6', '3', '0', 'b', '0', '4', '8', '9', 'e', '5', '1', '7', 'b', '7', '2', 'd', 'f', 'e', '6', '3', '5', '1', 'f', '4', '2', '6', '7', 'f', 'd', '8', '6', '5', 'a', 'c', 'c', 'a', '6', '8', '1', 'a', '3', '2', 'a', 'b', 'c', 'd', 'b', '8', '0', 'f', '8', '3', 'b', '8', '4'] (by kernel_rfl) (by kernel_rfl) (by kernel_rfl) (by kernel_rfl) (by decide)

theorem strip_cut (r : List (List Char)) : stripLifts liftWords (['c', 'u', 't'] :: r) = ([], ['c', 'u', 't'] :: r) := by kernel_rfl

theorem lays_later : Try.pinned.checked.prog.laysLater = false := by kernel_rfl
theorem bears_reflect : Try.pinned.checked.prog.bearsReflect = false := by kernel_rfl
theorem door_fits : Try.pinned.checked.prog.doorFits [] = true := by kernel_rfl

theorem may_enter_of (P : Program) (r : List (List Char)) (hr : behindMainWord (wordsSigns P.initOrder.toList) = ['c', 'u', 't'] :: r) (h1 : P.laysLater = false) (h2 : P.bearsReflect = false) (h3 : P.doorFits [] = true) : P.mayEnter = true := by
  unfold Program.mayEnter
  rw [hr]
  simp only [strip_cut, h1, h2, h3]
  rfl

theorem head_lifts_of (P : Program) (r : List (List Char)) (hr : behindMainWord (wordsSigns P.initOrder.toList) = ['c', 'u', 't'] :: r) : P.headLifts = [] := by
  unfold Program.headLifts
  simp only [hr, strip_cut]
  rfl

theorem lifts_final_of (P : Program) (r : List (List Char)) (hr : behindMainWord (wordsSigns P.initOrder.toList) = ['c', 'u', 't'] :: r) : P.liftsFinal = false := by
  have h := head_lifts_of P r hr
  unfold Program.liftsFinal
  simp only [hr, h]
  rfl

theorem make_of (P : Program) (r : List (List Char)) (hr : behindMainWord (wordsSigns P.initOrder.toList) = ['c', 'u', 't'] :: r) : P.make = some .cut := by
  unfold Program.make
  rw [hr]
  rfl

theorem may_enter : Try.pinned.checked.prog.mayEnter = true := by
  obtain ⟨r, hr⟩ := head_cut
  exact may_enter_of _ r hr lays_later bears_reflect door_fits

theorem lifts_final : Try.pinned.checked.prog.liftsFinal = false := by
  obtain ⟨r, hr⟩ := head_cut
  exact lifts_final_of _ r hr

theorem make_cut : Try.pinned.checked.prog.make = some .cut := by
  obtain ⟨r, hr⟩ := head_cut
  exact make_of _ r hr

end Go.Proofs.Qxb6600149a
