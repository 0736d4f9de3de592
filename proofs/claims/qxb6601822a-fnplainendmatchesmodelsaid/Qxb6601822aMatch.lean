/-
  THE WALK OF FnPlainEndMatchesModel: zzPlainEndModel, the bound on the length, the law.
-/
import Derived.Test.Qxb6601822aModel
namespace Go.Proofs.Qxb6601822a
open Go.RowKit
set_option linter.unusedVariables false
set_option linter.unusedSimpArgs false

theorem lt_of_nostop {s : ByteArray} {i k : Nat} {flow : Bool} (h : stopB s i k flow = false) : k < s.size := by
  by_cases g : k < s.size
  · exact g
  · rw [stop_end s i k flow (by omega)] at h; cases h

set_option maxHeartbeats 1000000 in
theorem model_any (s : ByteArray) (i : Nat) (flow : Bool) (w : World) (hs : s.size ≤ 1048576) (hi : i ≤ 9223372036854775807) :
    Calls Try.prog 13 #[.string s, .int .i64 i, .bool flow] w fun e w' => ∃ n : Nat, e = .returned (.int .i64 n) ∧ PE s i flow n ∧ w' = w := by
  go_enter Try.func13, Try.ntmps13
  go_wp2
  go_loop [7] (fun p => ∃ k : Nat, p = .int .i64 k ∧ i ≤ k ∧ k ≤ 9223372036854775807 ∧ Hid (∀ x, i ≤ x → x < k → stopB s i x flow = false)) (fun p => s.size - (intOf p).toNat)
  case atStart => exact ⟨i, rfl, by omega, hi, fun x _ _ => by omega⟩
  case round =>
    obtain ⟨k, rfl, hik, hk, HF⟩ := hrel
    by_cases hst : stopB s i k flow = true
    · go_wp2_with (go_at_call 25; refine (stops_any s i k flow _ hs hik hk).mono ?_; rintro e w' ⟨rfl, rfl⟩)
      have HT : Hid (stopB s i k flow = true) := hst
      clear hst
      go_loop [8] (fun p => ∃ e : Nat, p = .int .i64 e ∧ i ≤ e ∧ e ≤ k ∧ Hid (∀ x, e ≤ x → x < k → bt s x = 32)) (fun p => (intOf p).toNat)
      case atStart => exact ⟨k, rfl, hik, Nat.le_refl _, fun x _ _ => by omega⟩
      case round =>
        obtain ⟨m, rfl, him, hmk, HS⟩ := hrel
        by_cases hlt : i < m
        · obtain ⟨m, rfl⟩ : ∃ x, m = x + 1 := ⟨m - 1, by omega⟩
          have hms : m < s.size := lt_of_nostop (HF.out m (by omega) (by omega))
          have HB : Hid (bt s m = (s[m].toNat : Int)) := bt_in hms
          by_cases h32 : ((s[m].toNat : Int) == 32) = true
          · go_wp2_with fail
            go_round
            case rel =>
              refine ⟨m, by go_num, by omega, by omega, fun x h1 h2 => ?_⟩
              by_cases hx : x = m
              · subst hx; rw [HB.out]; simpa using h32
              · exact HS.out x (by omega) h2
            case measure => simp [intOf]
          · have h32' : ((s[m].toNat : Int) == 32) = false := by simpa using h32
            clear h32
            go_wp2_with fail
            go_ret
            refine ⟨m + 1, by go_num, ⟨k, hik, HF.out, HT.out, him, hmk, HS.out, Or.inr ?_⟩, rfl⟩
            rw [Nat.add_sub_cancel, HB.out]; simpa using h32'
        · have hmi : m = i := by omega
          subst hmi
          go_wp2_with fail
          go_ret
          exact ⟨m, rfl, ⟨k, hik, HF.out, HT.out, him, hmk, HS.out, Or.inl rfl⟩, rfl⟩
    · have hst' : stopB s i k flow = false := by simpa using hst
      clear hst
      have hlt := lt_of_nostop hst'
      go_wp2_with (go_at_call 25; refine (stops_any s i k flow _ hs hik hk).mono ?_; rintro e w' ⟨rfl, rfl⟩)
      go_round
      case rel =>
        refine ⟨k + 1, by go_num, by omega, by omega, fun x h1 h2 => ?_⟩
        by_cases hx : x < k
        · exact HF.out x h1 hx
        · have : x = k := by omega
          subst this; exact hst'
      case measure => simp [intOf]; omega

set_option maxHeartbeats 400000 in
theorem bytes11_any (s : ByteArray) (a1 a2 a3 a4 a5 a6 a7 : Int) (f : Bool) (w : World) (hs : s.size ≤ maxLen) :
    Calls Try.prog 11 #[.string s, .int .i64 a1, .int .i64 a2, .int .i64 a3, .int .i64 a4, .int .i64 a5, .int .i64 a6, .int .i64 a7, .bool f] w fun e w' =>
      e = .returned (.bool (lenB s.size)) ∧ w' = w := by
  unfold maxLen at hs
  go_enter Try.func11, Try.ntmps11
  go_wp2
  all_goals
    go_ret
    exact ⟨ret_bool (by simp [lenB]; omega), rfl⟩

namespace fnPlainEndMatchesModel
set_option maxHeartbeats 1000000 in
theorem walk (a0 : ByteArray) (a1 : Int) (a2 : Int) (a3 : Int) (a4 : Int) (a5 : Int) (a6 : Int) (a7 : Int) (a8 : Bool) (w0 : a0.size ≤ maxLen) (w1 : (Lit.int .i64 a1).wf = true) (w2 : (Lit.int .i64 a2).wf = true) (w3 : (Lit.int .i64 a3).wf = true) (w4 : (Lit.int .i64 a4).wf = true) (w5 : (Lit.int .i64 a5).wf = true) (w6 : (Lit.int .i64 a6).wf = true) (w7 : (Lit.int .i64 a7).wf = true) (w : World) :
    Calls Try.prog 4 #[.string a0, .int .i64 a1, .int .i64 a2, .int .i64 a3, .int .i64 a4, .int .i64 a5, .int .i64 a6, .int .i64 a7, .bool a8] w fun e w' => e = .returned (.bool true) ∧ Grown w w' := by
  by_cases hB : lenB a0.size = true
  · have hb : a0.size ≤ 1048576 := by simpa [lenB] using hB
    by_cases h3 : a7 < 0
    · go_enter Try.func4, Try.ntmps4
      go_wp2_with (go_at_call 11; refine (bytes11_any a0 a1 a2 a3 a4 a5 a6 a7 a8 _ w0).mono ?_; rintro e w' ⟨rfl, rfl⟩)
      go_ret
      exact ⟨rfl, Grown.refl _⟩
    · obtain ⟨i, rfl⟩ := Int.eq_ofNat_of_zero_le (show 0 ≤ a7 by omega)
      have hi : i ≤ 9223372036854775807 := by have := (bounds_i64 w7).2; omega
      go_enter Try.func4, Try.ntmps4
      go_wp2_with (go_at_call 11; refine (bytes11_any a0 a1 a2 a3 a4 a5 a6 _ a8 _ w0).mono ?_; rintro e w' ⟨rfl, hw⟩; obtain rfl := hw.symm; clear hw)
      refine (reader_any a0 a1 a2 a3 a4 a5 a6 _).mono ?_
      rintro e w' ⟨cs, rfl, hcs, rfl⟩
      have hc : (w.alloc (.cells cs 49)).cell? ⟨w.heap.size, 0, none⟩ = some (.string a0) := by
        simp [hcs]
      go_wp2_with fail
      refine (zzEnd_any a0 i a8 _ _ hb hi hc).mono ?_
      rintro e w' ⟨n1, rfl, hn1, hw⟩
      obtain rfl := hw.symm
      clear hw
      have HN1 : Hid (PE a0 i a8 n1) := hn1
      clear hn1
      go_wp2_with fail
      refine (model_any a0 i a8 _ hb hi).mono ?_
      rintro e w' ⟨n2, rfl, hn2, hw⟩
      obtain rfl := hw.symm
      clear hw
      have he := PE_uniq HN1.out hn2
      subst he
      go_wp2_with fail
      go_ret
      exact ⟨ret_bool (by simp), (Grown.refl _).alloc _ _⟩
  · have hB' : lenB a0.size = false := by simpa using hB
    clear hB
    go_enter Try.func4, Try.ntmps4
    go_wp2_with (go_at_call 11; refine (bytes11_any a0 a1 a2 a3 a4 a5 a6 a7 a8 _ w0).mono ?_; rintro e w' ⟨rfl, rfl⟩)
    go_ret
    exact ⟨rfl, Grown.refl _⟩
end fnPlainEndMatchesModel
end Go.Proofs.Qxb6601822a
