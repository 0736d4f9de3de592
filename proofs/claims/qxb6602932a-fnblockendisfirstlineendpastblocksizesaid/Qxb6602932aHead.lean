/-
  THE HEAD OF THE TRANSLATION, SIGN BY SIGN. The row's three closed facts that read that head ('mayEnter', 'liftsFinal', 'make') make the kernel cut a string of 587 signs into words, each time anew, at a great cost of memory (at a fellow seat, 776 signs, over 9 GB each). Here the string is named once as a list of signs, its first three words are cut off by a law, and the rest is never looked at.
-/
import Derived.Test.Qxb6602932aRows
import Derived.ProofKit
namespace Go.Proofs.Qxb6602932a
def headSum : List Nat := [
  56, 48, 101, 57, 51, 51, 53, 55, 56, 98, 56, 100, 52, 50, 49, 97, 52, 97, 53, 49, 56, 50, 102, 51, 51, 56, 52, 49, 48, 48, 49, 50, 54, 100, 57, 99, 100, 99, 101, 52, 57, 55, 99,
  48, 54, 102, 53, 49, 52, 54, 102, 49, 50, 55, 97, 54, 53, 48, 51, 53, 56, 52, 55, 102]
def headTail : List Nat := [
  97, 116, 32, 101, 120, 97, 109, 112, 108, 101, 46, 99, 111, 109, 47, 116, 117, 111, 103, 117, 97, 110, 47, 116, 117, 111, 103, 117, 97, 110, 47, 122, 122, 108, 97, 119, 115, 95,
  105, 110, 116, 101, 114, 110, 97, 108, 95, 99, 115, 118, 102, 105, 108, 101, 95, 98, 49, 46, 70, 110, 70, 105, 108, 108, 101, 100, 76, 105, 110, 101, 115, 77, 97, 116, 99, 104,
  101, 115, 77, 111, 100, 101, 108, 32, 101, 120, 97, 109, 112, 108, 101, 46, 99, 111, 109, 47, 116, 117, 111, 103, 117, 97, 110, 47, 116, 117, 111, 103, 117, 97, 110, 47, 122, 122,
  108, 97, 119, 115, 95, 105, 110, 116, 101, 114, 110, 97, 108, 95, 99, 115, 118, 102, 105, 108, 101, 95, 98, 49, 46, 70, 110, 70, 105, 108, 108, 101, 100, 76, 105, 110, 101, 115,
  65, 100, 100, 115, 79, 118, 101, 114, 87, 104, 111, 108, 101, 76, 105, 110, 101, 115, 32, 101, 120, 97, 109, 112, 108, 101, 46, 99, 111, 109, 47, 116, 117, 111, 103, 117, 97, 110,
  47, 116, 117, 111, 103, 117, 97, 110, 47, 122, 122, 108, 97, 119, 115, 95, 105, 110, 116, 101, 114, 110, 97, 108, 95, 99, 115, 118, 102, 105, 108, 101, 95, 98, 49, 46, 70, 110, 70,
  105, 108, 108, 101, 100, 76, 105, 110, 101, 115, 66, 111, 117, 110, 100, 115, 32, 101, 120, 97, 109, 112, 108, 101, 46, 99, 111, 109, 47, 116, 117, 111, 103, 117, 97, 110, 47, 116,
  117, 111, 103, 117, 97, 110, 47, 122, 122, 108, 97, 119, 115, 95, 105, 110, 116, 101, 114, 110, 97, 108, 95, 99, 115, 118, 102, 105, 108, 101, 95, 98, 49, 46, 70, 110, 66, 108,
  111, 99, 107, 69, 110, 100, 73, 115, 70, 105, 114, 115, 116, 76, 105, 110, 101, 69, 110, 100, 80, 97, 115, 116, 66, 108, 111, 99, 107, 83, 105, 122, 101, 32, 101, 120, 97, 109,
  112, 108, 101, 46, 99, 111, 109, 47, 116, 117, 111, 103, 117, 97, 110, 47, 116, 117, 111, 103, 117, 97, 110, 47, 122, 122, 108, 97, 119, 115, 95, 105, 110, 116, 101, 114, 110, 97,
  108, 95, 99, 115, 118, 102, 105, 108, 101, 95, 98, 49, 46, 70, 110, 66, 108, 111, 99, 107, 69, 110, 100, 71, 114, 111, 119, 115, 87, 105, 116, 104, 66, 108, 111, 99, 107, 83, 105,
  122, 101, 32, 101, 120, 97, 109, 112, 108, 101, 46, 99, 111, 109, 47, 116, 117, 111, 103, 117, 97, 110, 47, 116, 117, 111, 103, 117, 97, 110, 47, 122, 122, 108, 97, 119, 115, 95,
  105, 110, 116, 101, 114, 110, 97, 108, 95, 99, 115, 118, 102, 105, 108, 101, 95, 98, 49, 46, 70, 110, 66, 108, 111, 99, 107, 69, 110, 100, 67, 117, 116, 115, 70, 105, 108, 101, 73,
  110, 116, 111, 87, 104, 111, 108, 101, 76, 105, 110, 101, 115]
theorem head_eq : Try.pinned.checked.prog.initOrder = String.ofList ([104, 97, 114, 110, 101, 115, 115].map Char.ofNat ++ ' ' :: (headSum.map Char.ofNat ++ ' ' :: ([99, 117, 116].map Char.ofNat ++ ' ' :: headTail.map Char.ofNat))) := by kernel_rfl
theorem head_toList : Try.pinned.checked.prog.initOrder.toList = [104, 97, 114, 110, 101, 115, 115].map Char.ofNat ++ ' ' :: (headSum.map Char.ofNat ++ ' ' :: ([99, 117, 116].map Char.ofNat ++ ' ' :: headTail.map Char.ofNat)) := by
  rw [head_eq, String.toList_ofList]
theorem words_cons (r : List Char) : ∀ (w : List Char), (∀ c ∈ w, c ≠ ' ') → wordsSigns (w ++ ' ' :: r) = w :: wordsSigns r
  | [], _ => rfl
  | c :: w, h => by
    have ih := words_cons r w (fun x hx => h x (List.mem_cons_of_mem _ hx))
    have hc := h c (List.mem_cons_self ..)
    rw [List.cons_append, wordsSigns.eq_def]
    split
    · rename_i h1; simp at h1
    · rename_i h1; simp at h1; exact absurd h1.1 hc
    · rename_i h1 h2
      simp at h2
      obtain ⟨rfl, rfl⟩ := h2
      rw [ih]
theorem head_sum : ∀ c ∈ headSum.map Char.ofNat, c ≠ ' ' := by decide +kernel
theorem head_main : ∀ c ∈ [104, 97, 114, 110, 101, 115, 115].map Char.ofNat, c ≠ ' ' := by decide +kernel
theorem head_cut : ∀ c ∈ [99, 117, 116].map Char.ofNat, c ≠ ' ' := by decide +kernel
theorem head_behind (r : List (List Char)) : behindMainWord ([104, 97, 114, 110, 101, 115, 115].map Char.ofNat :: headSum.map Char.ofNat :: r) = r := by kernel_rfl
theorem head_words : ∃ ws, behindMainWord (wordsSigns Try.pinned.checked.prog.initOrder.toList) = [99, 117, 116].map Char.ofNat :: ws := by
  refine ⟨wordsSigns (headTail.map Char.ofNat), ?_⟩
  rw [head_toList, words_cons _ _ head_main, words_cons _ _ head_sum, words_cons _ _ head_cut, head_behind]
theorem head_strip (ws : List (List Char)) : stripLifts liftWords ([99, 117, 116].map Char.ofNat :: ws) = ([], [99, 117, 116].map Char.ofNat :: ws) := by kernel_rfl
theorem any_lifts (P : Program) (ws : List (List Char)) (h : behindMainWord (wordsSigns P.initOrder.toList) = [99, 117, 116].map Char.ofNat :: ws) : P.headLifts = [] := by
  unfold Program.headLifts
  rw [h, head_strip]
  clear h
  kernel_rfl
theorem any_enter (P : Program) (ws : List (List Char)) (h : behindMainWord (wordsSigns P.initOrder.toList) = [99, 117, 116].map Char.ofNat :: ws) (h1 : P.laysLater = false) (h2 : P.bearsReflect = false) (h3 : P.doorFits [] = true) : P.mayEnter = true := by
  unfold Program.mayEnter
  rw [h]
  simp only [head_strip, h1, h2, h3]
  clear h h1 h2 h3
  kernel_rfl
theorem any_final (P : Program) (ws : List (List Char)) (h : behindMainWord (wordsSigns P.initOrder.toList) = [99, 117, 116].map Char.ofNat :: ws) : P.liftsFinal = false := by
  unfold Program.liftsFinal
  rw [h, any_lifts P ws h]
  clear h
  kernel_rfl
theorem any_make (P : Program) (ws : List (List Char)) (h : behindMainWord (wordsSigns P.initOrder.toList) = [99, 117, 116].map Char.ofNat :: ws) : P.make = some .cut := by
  unfold Program.make
  rw [h]
  clear h
  kernel_rfl
theorem lays_no : Try.pinned.checked.prog.laysLater = false := by kernel_rfl
theorem reflect_no : Try.pinned.checked.prog.bearsReflect = false := by kernel_rfl
theorem door_fits : Try.pinned.checked.prog.doorFits [] = true := by kernel_rfl
theorem head_enter : Try.pinned.checked.prog.mayEnter = true := by
  obtain ⟨ws, h⟩ := head_words
  exact any_enter _ ws h lays_no reflect_no door_fits
theorem head_final : Try.pinned.checked.prog.liftsFinal = false := by
  obtain ⟨ws, h⟩ := head_words
  exact any_final _ ws h
theorem head_make : Try.pinned.checked.prog.make = some .cut := by
  obtain ⟨ws, h⟩ := head_words
  exact any_make _ ws h
theorem and_mk {a b : Bool} (ha : a = true) (hb : b = true) : (a && b) = true := by rw [ha, hb]; rfl
end Go.Proofs.Qxb6602932a
