/-
  THE WALKS OF ZZNewReader, ZZPlainEnd, the bounds on the lengths.
-/
import Derived.Test.Qxb6601822aEnd
namespace Go.Proofs.Qxb6601822a
open Go.RowKit
set_option linter.unusedVariables false
set_option linter.unusedSimpArgs false

set_option maxHeartbeats 400000 in
theorem zzEnd_any (s : ByteArray) (i : Nat) (flow : Bool) (b : Nat) (w : World) (hs : s.size ≤ 1048576) (hi : i ≤ 9223372036854775807) (hc : w.cell? ⟨b, 0, none⟩ = some (.string s)) :
    Calls Try.prog 12 #[.pointer (some ⟨b, 0, none⟩), .int .i64 i, .bool flow] w fun e w' => ∃ n : Nat, e = .returned (.int .i64 n) ∧ PE s i flow n ∧ w' = w := by
  go_enter Try.func12, Try.ntmps12
  go_wp2_with (go_at_call 24; refine (plainEnd_any s i flow b _ hs hi hc).mono ?_; rintro e w' ⟨n, rfl, hn, rfl⟩)
  go_ret
  exact ⟨n, rfl, hn, rfl⟩

theorem PE_bound {s : ByteArray} {i : Nat} {flow : Bool} {e : Nat} (h : PE s i flow e) : e ≤ i ∨ e ≤ s.size := by
  by_cases hi : s.size ≤ i
  · left; have := PE_past hi h; omega
  · right; exact PE_hi (by omega) h

/-- ZZPlainEnd at an index that is written otherwise than as a cast. -/
theorem zzEnd_i (s : ByteArray) (i : Nat) (x : Int) (hx : x = (i : Int)) (flow : Bool) (b : Nat) (w : World) (hs : s.size ≤ 1048576) (hi : i ≤ 9223372036854775807) (hc : w.cell? ⟨b, 0, none⟩ = some (.string s)) :
    Calls Try.prog 12 #[.pointer (some ⟨b, 0, none⟩), .int .i64 x, .bool flow] w fun e w' => ∃ n : Nat, e = .returned (.int .i64 n) ∧ PE s i flow n ∧ w' = w := by
  subst hx; exact zzEnd_any s i flow b w hs hi hc

set_option maxHeartbeats 400000 in
theorem reader_any (s : ByteArray) (a1 a2 a3 a4 a5 a6 : Int) (w : World) :
    Calls Try.prog 10 #[.string s, .int .i64 a1, .int .i64 a2, .int .i64 a3, .int .i64 a4, .int .i64 a5, .int .i64 a6] w fun e w' =>
      ∃ cs : Array Value, e = .returned (.pointer (some ⟨w.heap.size, 0, none⟩)) ∧ cs[0]? = some (.string s) ∧ w' = w.alloc (.cells cs 49) := by
  go_enter Try.func10, Try.ntmps10
  go_wp2
  go_ret
  exact ⟨_, rfl, rfl, rfl⟩

def lenB (n : Nat) : Bool := decide (n ≤ 1048576)
set_option maxHeartbeats 400000 in
theorem bytes16_any (p s : ByteArray) (a2 a3 a4 a5 a6 a7 a8 : Int) (f : Bool) (w : World) (hp : p.size ≤ maxLen) (hs : s.size ≤ maxLen) :
    Calls Try.prog 16 #[.string p, .string s, .int .i64 a2, .int .i64 a3, .int .i64 a4, .int .i64 a5, .int .i64 a6, .int .i64 a7, .int .i64 a8, .bool f] w fun e w' =>
      e = .returned (.bool (lenB (p.size + s.size))) ∧ w' = w := by
  unfold maxLen at hp hs
  go_enter Try.func16, Try.ntmps16
  go_wp2
  all_goals
    go_ret
    exact ⟨ret_bool (by simp [lenB]; omega), rfl⟩
end Go.Proofs.Qxb6601822a
