/-
  THE WALKS OF THE LEAVES: at, ends, blank, strings.IndexByte.
-/
import Derived.Test.Qxb6601822aRows
import Derived.Test.Qxb6601822aPe
import Derived.WalkKit
import Derived.WalkSpells
import Derived.WalkLawsBesides
import Derived.Lib.Bytealg
namespace Go.Proofs.Qxb6601822a
open Go.RowKit
set_option linter.unusedVariables false
set_option linter.unusedSimpArgs false

theorem ret_int {k : IntKind} {a b : Int} (h : a = b) : Ending.returned (.int k a) = .returned (.int k b) := by rw [h]
theorem ret_bool {a b : Bool} (h : a = b) : Ending.returned (.bool a) = .returned (.bool b) := by rw [h]

set_option maxHeartbeats 400000 in
theorem at_any (s : ByteArray) (k : Nat) (b : Nat) (w : World) (hs : s.size ≤ 1048576) (hk : k ≤ 9223372036854775807) (hc : w.cell? ⟨b, 0, none⟩ = some (.string s)) :
    Calls Try.prog 28 #[.pointer (some ⟨b, 0, none⟩), .int .i64 k] w fun e w' => e = .returned (.int .u8 (bt s k)) ∧ w' = w := by
  by_cases h : k < s.size
  · have e := bt_in h
    have E : Hid (bt s k = (s[k].toNat : Int)) := e
    clear e
    go_enter Try.func28, Try.ntmps28
    go_wp2
    go_ret
    exact ⟨ret_int E.out.symm, rfl⟩
  · have E : Hid (bt s k = 0) := bt_out (by omega)
    go_enter Try.func28, Try.ntmps28
    go_wp2
    go_ret
    exact ⟨ret_int E.out.symm, rfl⟩

/-- 'at' at an index that is written otherwise than as a cast. -/
theorem at_i (s : ByteArray) (k : Nat) (i : Int) (hi : i = (k : Int)) (b : Nat) (w : World) (hs : s.size ≤ 1048576) (hk : k ≤ 9223372036854775807) (hc : w.cell? ⟨b, 0, none⟩ = some (.string s)) :
    Calls Try.prog 28 #[.pointer (some ⟨b, 0, none⟩), .int .i64 i] w fun e w' => e = .returned (.int .u8 (bt s k)) ∧ w' = w := by
  subst hi; exact at_any s k b w hs hk hc

set_option maxHeartbeats 400000 in
theorem ends_any (c : Int) (w : World) :
    Calls Try.prog 32 #[.int .u8 c] w fun e w' => e = .returned (.bool (endsB c)) ∧ w' = w := by
  go_enter Try.func32, Try.ntmps32
  go_wp2
  all_goals
    go_ret
    exact ⟨ret_bool (by simp [endsB, Bool.or_assoc, *]), rfl⟩

set_option maxHeartbeats 400000 in
theorem blank_any (c : Int) (w : World) :
    Calls Try.prog 33 #[.int .u8 c] w fun e w' => e = .returned (.bool (blankB c)) ∧ w' = w := by
  by_cases h : c = 32
  · subst h
    go_enter Try.func33, Try.ntmps33
    go_wp2_with (go_at_call 32; refine (ends_any _ _).mono ?_; rintro e w' ⟨rfl, rfl⟩)
    go_ret
    exact ⟨ret_bool (by simp [blankB]), rfl⟩
  · have h' : (c == 32) = false := by simpa using h
    clear h
    go_enter Try.func33, Try.ntmps33
    go_wp2_with (go_at_call 32; refine (ends_any _ _).mono ?_; rintro e w' ⟨rfl, rfl⟩)
    go_ret
    exact ⟨ret_bool (by simp [blankB, h']), rfl⟩

set_option maxHeartbeats 400000 in
theorem slite_any (s : ByteArray) (c : Int) (w : World) :
    Calls Try.prog 38 #[.string s, .int .u8 c] w fun e w' => e = .returned (.int .i64 (Lib.indexByte s.data.toList c.toNat.toUInt8)) ∧ w' = w := by
  go_enter Try.func38, Try.ntmps38
  go_wp2
  rw [run_callFunc_extern Try.func39 (by kernel_rfl) (by kernel_rfl) (by kernel_rfl) (e := Extern.BytealgIndexByte.indexByte) (by kernel_rfl), Lib.run_indexByteString]
  simp only [Result.andThen]
  rw [Oper.upon_value]
  go_wp2
  go_ret
  exact ⟨rfl, rfl⟩

set_option maxHeartbeats 400000 in
theorem index_any (s : ByteArray) (c : Int) (w : World) :
    Calls Try.prog 34 #[.string s, .int .u8 c] w fun e w' => e = .returned (.int .i64 (Lib.indexByte s.data.toList c.toNat.toUInt8)) ∧ w' = w := by
  go_enter Try.func34, Try.ntmps34
  go_wp2_with (go_at_call 38; refine (slite_any _ _ _).mono ?_; rintro e w' ⟨rfl, rfl⟩)
  go_ret
  exact ⟨rfl, rfl⟩

theorem flow_tab : ∀ n : Nat, n < 256 → decide (0 ≤ Lib.indexByte [44, 63, 91, 93, 123, 125] n.toUInt8) = flowB (n : Int) := by
  decide +kernel
theorem flow_idx (c : Int) (h0 : 0 ≤ c) (h1 : c ≤ 255) : decide (0 ≤ Lib.indexByte [44, 63, 91, 93, 123, 125] c.toNat.toUInt8) = flowB c := by
  have := flow_tab c.toNat (by omega)
  rwa [Int.toNat_of_nonneg h0] at this

/-- strings.IndexByte of the flow indicators: not below 0 just where the byte is one of them. -/
theorem index_flow (c : Int) (h0 : 0 ≤ c) (h1 : c ≤ 255) (w : World) :
    Calls Try.prog 34 #[.string { data := #[44, 63, 91, 93, 123, 125] }, .int .u8 c] w fun e w' => ∃ n : Int, e = .returned (.int .i64 n) ∧ decide (0 ≤ n) = flowB c ∧ w' = w := by
  refine (index_any _ c w).mono ?_
  rintro e w' ⟨rfl, rfl⟩
  exact ⟨_, rfl, flow_idx c h0 h1, rfl⟩
end Go.Proofs.Qxb6601822a
