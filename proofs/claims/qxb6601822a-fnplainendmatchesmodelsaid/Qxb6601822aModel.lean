/-
  THE WALK OF FnPlainEndMatchesModel: zzAt, zzLineEnd, zzBlank, zzStopsPlain, zzPlainEndModel, the bound on the length, the law.
-/
import Derived.Test.Qxb6601822aFlow
namespace Go.Proofs.Qxb6601822a
open Go.RowKit
set_option linter.unusedVariables false
set_option linter.unusedSimpArgs false

set_option maxHeartbeats 400000 in
theorem zzAt_any (s : ByteArray) (k : Nat) (w : World) (hs : s.size ≤ 1048576) (hk : k ≤ 9223372036854775807) :
    Calls Try.prog 35 #[.string s, .int .i64 k] w fun e w' => e = .returned (.int .u8 (bt s k)) ∧ w' = w := by
  by_cases h : k < s.size
  · have E : Hid (bt s k = (s[k].toNat : Int)) := bt_in h
    go_enter Try.func35, Try.ntmps35
    go_wp2
    go_ret
    exact ⟨ret_int E.out.symm, rfl⟩
  · have E : Hid (bt s k = 0) := bt_out (by omega)
    go_enter Try.func35, Try.ntmps35
    go_wp2
    go_ret
    exact ⟨ret_int E.out.symm, rfl⟩
theorem zzAt_i (s : ByteArray) (k : Nat) (x : Int) (hx : x = (k : Int)) (w : World) (hs : s.size ≤ 1048576) (hk : k ≤ 9223372036854775807) :
    Calls Try.prog 35 #[.string s, .int .i64 x] w fun e w' => e = .returned (.int .u8 (bt s k)) ∧ w' = w := by
  subst hx; exact zzAt_any s k w hs hk

set_option maxHeartbeats 400000 in
theorem zzEnds_any (c : Int) (w : World) :
    Calls Try.prog 36 #[.int .u8 c] w fun e w' => e = .returned (.bool (endsB c)) ∧ w' = w := by
  go_enter Try.func36, Try.ntmps36
  go_wp2
  all_goals
    go_ret
    exact ⟨ret_bool (by simp [endsB, Bool.or_assoc, *]), rfl⟩

set_option maxHeartbeats 400000 in
theorem zzBlank_any (c : Int) (w : World) :
    Calls Try.prog 37 #[.int .u8 c] w fun e w' => e = .returned (.bool (blankB c)) ∧ w' = w := by
  by_cases h : c = 32
  · subst h
    go_enter Try.func37, Try.ntmps37
    go_wp2_with (go_at_call 36; refine (zzEnds_any _ _).mono ?_; rintro e w' ⟨rfl, rfl⟩)
    go_ret
    exact ⟨ret_bool (by simp [blankB]), rfl⟩
  · have h' : (c == 32) = false := by simpa using h
    clear h
    go_enter Try.func37, Try.ntmps37
    go_wp2_with (go_at_call 36; refine (zzEnds_any _ _).mono ?_; rintro e w' ⟨rfl, rfl⟩)
    go_ret
    exact ⟨ret_bool (by simp [blankB, h']), rfl⟩

/-- The last test of zzStopsPlain: a '#' right behind a space. -/
theorem stop_last {s : ByteArray} {i j : Nat} {flow : Bool} (he : endsB (bt s j) = false) (hc : colB s j = false) (hf : (flow && flowB (bt s j)) = false) : stopB s i j flow = hashB s i j := by
  simp only [stopB, he, hc, hf, Bool.false_or]

set_option maxHeartbeats 1000000 in
theorem stops_any (s : ByteArray) (i j : Nat) (flow : Bool) (w : World) (hs : s.size ≤ 1048576) (hij : i ≤ j) (hj : j ≤ 9223372036854775807) :
    Calls Try.prog 25 #[.string s, .int .i64 i, .int .i64 j, .bool flow] w fun e w' => e = .returned (.bool (stopB s i j flow)) ∧ w' = w := by
  by_cases he : endsB (bt s j) = true
  · have HE : Hid (stopB s i j flow = true) := (by unfold stopB; rw [he]; rfl : stopB s i j flow = true)
    go_enter Try.func25, Try.ntmps25
    go_wp2_with (first | (go_at_call 35; refine (zzAt_any s j _ hs hj).mono ?_; rintro e w' ⟨rfl, rfl⟩) | (go_at_call 36; refine (zzEnds_any _ _).mono ?_; rintro e w' ⟨rfl, rfl⟩))
    go_ret
    exact ⟨ret_bool HE.out.symm, rfl⟩
  · have he' : endsB (bt s j) = false := by simpa using he
    clear he
    have hlt : j < s.size := lt_of_ends he'
    by_cases hcol : (bt s j == 58) = true
    · have h35 : (bt s j == 35) = false := by simp at hcol ⊢; omega
      have hfl : flowB (bt s j) = false := by simp at hcol; rw [hcol]; rfl
      by_cases hbl : blankB (bt s (j + 1)) = true
      · have HE : Hid (stopB s i j flow = true) := (by unfold stopB colB; rw [hcol, hbl]; simp : stopB s i j flow = true)
        go_enter Try.func25, Try.ntmps25
        go_wp2_with fail
        refine (zzAt_any s j _ hs hj).mono ?_
        rintro e w' ⟨rfl, rfl⟩
        go_wp2_with (go_at_call 36; refine (zzEnds_any _ _).mono ?_; rintro e w' ⟨rfl, rfl⟩)
        refine (zzAt_i s (j + 1) _ (by omega) _ hs (by omega)).mono ?_
        rintro e w' ⟨rfl, rfl⟩
        go_wp2_with (go_at_call 37; refine (zzBlank_any _ _).mono ?_; rintro e w' ⟨rfl, rfl⟩)
        go_ret
        exact ⟨ret_bool HE.out.symm, rfl⟩
      · have hbl' : blankB (bt s (j + 1)) = false := by simpa using hbl
        clear hbl
        have HE : Hid (stopB s i j flow = false) := (by unfold stopB colB hashB; rw [hcol, hbl', he', h35, hfl]; simp : stopB s i j flow = false)
        cases flow with
        | false =>
          go_enter Try.func25, Try.ntmps25
          go_wp2_with fail
          refine (zzAt_any s j _ hs hj).mono ?_
          rintro e w' ⟨rfl, rfl⟩
          go_wp2_with (go_at_call 36; refine (zzEnds_any _ _).mono ?_; rintro e w' ⟨rfl, rfl⟩)
          refine (zzAt_i s (j + 1) _ (by omega) _ hs (by omega)).mono ?_
          rintro e w' ⟨rfl, rfl⟩
          go_wp2_with (first | (go_at_call 37; refine (zzBlank_any _ _).mono ?_; rintro e w' ⟨rfl, rfl⟩) | (go_at_call 26; refine (ind_any _ _).mono ?_; rintro e w' ⟨rfl, rfl⟩))
          go_ret
          exact ⟨ret_bool HE.out.symm, rfl⟩
        | true =>
          go_enter Try.func25, Try.ntmps25
          go_wp2_with fail
          refine (zzAt_any s j _ hs hj).mono ?_
          rintro e w' ⟨rfl, rfl⟩
          go_wp2_with (go_at_call 36; refine (zzEnds_any _ _).mono ?_; rintro e w' ⟨rfl, rfl⟩)
          refine (zzAt_i s (j + 1) _ (by omega) _ hs (by omega)).mono ?_
          rintro e w' ⟨rfl, rfl⟩
          go_wp2_with (first | (go_at_call 37; refine (zzBlank_any _ _).mono ?_; rintro e w' ⟨rfl, rfl⟩) | (go_at_call 26; refine (ind_any _ _).mono ?_; rintro e w' ⟨rfl, rfl⟩))
          go_ret
          exact ⟨ret_bool HE.out.symm, rfl⟩
    · have hcol' : (bt s j == 58) = false := by simpa using hcol
      clear hcol
      have HC : Hid (colB s j = false) := (by unfold colB; rw [hcol']; simp : colB s j = false)
      by_cases hff : (flow && flowB (bt s j)) = true
      · have HE : Hid (stopB s i j flow = true) := (by unfold stopB; rw [hff]; simp : stopB s i j flow = true)
        simp only [Bool.and_eq_true] at hff
        obtain ⟨rfl, hfl⟩ := hff
        go_enter Try.func25, Try.ntmps25
        go_wp2_with (first | (go_at_call 35; refine (zzAt_any s j _ hs hj).mono ?_; rintro e w' ⟨rfl, rfl⟩) | (go_at_call 36; refine (zzEnds_any _ _).mono ?_; rintro e w' ⟨rfl, rfl⟩) | (go_at_call 26; refine (ind_any _ _).mono ?_; rintro e w' ⟨rfl, rfl⟩))
        go_ret
        exact ⟨ret_bool HE.out.symm, rfl⟩
      · have hff' : (flow && flowB (bt s j)) = false := by simpa using hff
        clear hff
        have HL : Hid (stopB s i j flow = hashB s i j) := stop_last he' HC.out hff'
        have hcase : flow = false ∨ (flow = true ∧ flowB (bt s j) = false) := by
          cases flow with
          | false => exact Or.inl rfl
          | true => exact Or.inr ⟨rfl, by simpa using hff'⟩
        clear hff'
        by_cases h35 : (bt s j == 35) = true
        · by_cases hlij : i < j
          · obtain ⟨j, rfl⟩ : ∃ x, j = x + 1 := ⟨j - 1, by omega⟩
            have HV : Hid (hashB s i (j + 1) = ((s[j].toNat : Int) == 32)) := (by unfold hashB; rw [h35]; simp [hlij]; rw [bt_in (by omega)] : hashB s i (j + 1) = ((s[j].toNat : Int) == 32))
            rcases hcase with rfl | ⟨rfl, hfl⟩
            all_goals
              go_enter Try.func25, Try.ntmps25
              go_wp2_with (first | (go_at_call 35; refine (zzAt_i s (j + 1) _ (by omega) _ hs hj).mono ?_; rintro e w' ⟨rfl, rfl⟩) | (go_at_call 36; refine (zzEnds_any _ _).mono ?_; rintro e w' ⟨rfl, rfl⟩) | (go_at_call 26; refine (ind_any _ _).mono ?_; rintro e w' ⟨rfl, rfl⟩))
              go_ret
              exact ⟨ret_bool (by rw [HL.out, HV.out]), rfl⟩
          · have HV : Hid (hashB s i j = false) := (by unfold hashB; simp [hlij] : hashB s i j = false)
            rcases hcase with rfl | ⟨rfl, hfl⟩
            all_goals
              go_enter Try.func25, Try.ntmps25
              go_wp2_with (first | (go_at_call 35; refine (zzAt_any s j _ hs hj).mono ?_; rintro e w' ⟨rfl, rfl⟩) | (go_at_call 36; refine (zzEnds_any _ _).mono ?_; rintro e w' ⟨rfl, rfl⟩) | (go_at_call 26; refine (ind_any _ _).mono ?_; rintro e w' ⟨rfl, rfl⟩))
              go_ret
              exact ⟨ret_bool (by rw [HL.out, HV.out]), rfl⟩
        · have h35' : (bt s j == 35) = false := by simpa using h35
          clear h35
          have HV : Hid (hashB s i j = false) := (by unfold hashB; rw [h35']; rfl : hashB s i j = false)
          rcases hcase with rfl | ⟨rfl, hfl⟩
          all_goals
            go_enter Try.func25, Try.ntmps25
            go_wp2_with (first | (go_at_call 35; refine (zzAt_any s j _ hs hj).mono ?_; rintro e w' ⟨rfl, rfl⟩) | (go_at_call 36; refine (zzEnds_any _ _).mono ?_; rintro e w' ⟨rfl, rfl⟩) | (go_at_call 26; refine (ind_any _ _).mono ?_; rintro e w' ⟨rfl, rfl⟩))
            go_ret
            exact ⟨ret_bool (by rw [HL.out, HV.out]), rfl⟩
end Go.Proofs.Qxb6601822a
