/-
  THE WALKS OF isWordByte, tokenLen; the library's three callees in the words of this seat.
-/
import Derived.Test.Qxb6602321aRows
import Derived.Test.Qxb6602321aShelf
import Derived.Test.Qxb6602321aTok
import Derived.WalkKit
import Derived.WalkSpells
import Derived.WalkLawsBesides
namespace Go.Proofs.Qxb6602321a
open Go.RowKit
set_option linter.unusedVariables false
set_option linter.unusedSimpArgs false

theorem ret_int {k : IntKind} {a b : Int} (h : a = b) : Ending.returned (.int k a) = .returned (.int k b) := by rw [h]
theorem ret_bool {a b : Bool} (h : a = b) : Ending.returned (.bool a) = .returned (.bool b) := by rw [h]

set_option maxHeartbeats 1000000 in
theorem word_any (c : Int) (w : World) :
    Calls Try.prog 34 #[.int .u8 c] w fun e w' => e = .returned (.bool (wordB c)) ∧ w' = w := by
  go_enter Try.func34, Try.ntmps34
  go_wp2
  all_goals
    go_ret
    refine ⟨ret_bool ?_, rfl⟩
    unfold wordB
    rw [Bool.eq_iff_iff]
    simp
    omega

theorem blank_any (c : Int) (w : World) :
    Calls Try.prog 27 #[.string { data := #[32, 9, 10, 11, 12, 13] }, .int .u8 c] w fun e w' => ∃ n : Int, e = .returned (.int .i64 n) ∧ decide (0 ≤ n) = blankB c ∧ w' = w := by
  refine (Try.strings_IndexByte _ c w).mono ?_
  rintro e w' ⟨rfl, rfl⟩
  exact ⟨_, rfl, rfl, rfl⟩
theorem nl_any (t : ByteArray) (c : Int) (w : World) :
    Calls Try.prog 27 #[.string t, .int .u8 c] w fun e w' => ∃ n : Int, e = .returned (.int .i64 n) ∧ (n = -1 ∨ (0 ≤ n ∧ n + 1 ≤ t.size)) ∧ w' = w := by
  refine (Try.strings_IndexByte _ c w).mono ?_
  rintro e w' ⟨rfl, rfl⟩
  refine ⟨_, rfl, ?_, rfl⟩
  have := index_byte c.toNat.toUInt8 t.data.toList
  simpa using this
theorem dash_any (t : ByteArray) (w : World) :
    Calls Try.prog 28 #[.string t, .string { data := #[45, 45] }] w fun e w' => e = .returned (.bool (dashB t)) ∧ w' = w :=
  Try.strings_HasPrefix t { data := #[45, 45] } w
theorem open_any (t : ByteArray) (w : World) :
    Calls Try.prog 28 #[.string t, .string { data := #[47, 42] }] w fun e w' => e = .returned (.bool (openB t)) ∧ w' = w :=
  Try.strings_HasPrefix t { data := #[47, 42] } w
theorem close_any (t : ByteArray) (w : World) (hsh : w.ShapedOpen Try.prog) (ht : t.size < 4294967281) :
    Calls Try.prog 29 #[.string t, .string { data := #[42, 47] }] w fun e w' => ∃ n : Int, e = .returned (.int .i64 n) ∧ (n = -1 ∨ (0 ≤ n ∧ n + 2 ≤ t.size)) ∧ w' = w := by
  refine (Try.strings_Index_shaped t _ w hsh ht).mono ?_
  rintro e w' ⟨rfl, rfl⟩
  refine ⟨_, rfl, ?_, rfl⟩
  have := index_two 42 47 t.data.toList
  simpa using this

/-- One round of the scan for the closing quote. -/
theorem q_esc {t : ByteArray} {c : Int} {f j R : Nat} (h : qscan t c f j = R) (hf : t.size ≤ f + j) (hj : j < t.size) (hb : bt t j = 92) : ∃ f', t.size ≤ f' + (j + 2) ∧ qscan t c f' (j + 2) = R := by
  cases f with
  | zero => omega
  | succ f => refine ⟨f, by omega, ?_⟩; rw [qscan, if_pos hj, if_pos hb] at h; exact h
theorem q_hit {t : ByteArray} {c : Int} {f j R : Nat} (h : qscan t c f j = R) (hf : t.size ≤ f + j) (hj : j < t.size) (hb : bt t j ≠ 92) (hc : bt t j = c) : R = j + 1 := by
  cases f with
  | zero => omega
  | succ f => rw [qscan, if_pos hj, if_neg hb, if_pos hc] at h; exact h.symm
theorem q_next {t : ByteArray} {c : Int} {f j R : Nat} (h : qscan t c f j = R) (hf : t.size ≤ f + j) (hj : j < t.size) (hb : bt t j ≠ 92) (hc : bt t j ≠ c) : ∃ f', t.size ≤ f' + (j + 1) ∧ qscan t c f' (j + 1) = R := by
  cases f with
  | zero => omega
  | succ f => refine ⟨f, by omega, ?_⟩; rw [qscan, if_pos hj, if_neg hb, if_neg hc] at h; exact h
theorem w_next {t : ByteArray} {f j R : Nat} (h : wscan t f j = R) (hf : t.size ≤ f + j) (hj : j < t.size) (hb : wordB (bt t j) = true) : ∃ f', t.size ≤ f' + (j + 1) ∧ wscan t f' (j + 1) = R := by
  cases f with
  | zero => omega
  | succ f => refine ⟨f, by omega, ?_⟩; rw [wscan, if_pos ⟨hj, hb⟩] at h; exact h
end Go.Proofs.Qxb6602321a
