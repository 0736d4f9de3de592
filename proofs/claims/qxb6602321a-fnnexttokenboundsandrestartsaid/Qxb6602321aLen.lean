/-
  THE WALK OF tokenLen: a quote of each of the three kinds, a word, any other byte.
-/
import Derived.Test.Qxb6602321aLeafs
namespace Go.Proofs.Qxb6602321a
open Go.RowKit
set_option linter.unusedVariables false
set_option linter.unusedSimpArgs false

set_option maxHeartbeats 1000000 in
theorem len_q39 (t : ByteArray) (w : World) (ht : t.size ≤ 1048576) (h0 : 0 < t.size) (hc : (t[0].toNat : Int) = 39) :
    Calls Try.prog 30 #[.string t] w fun e w' => e = .returned (.int .i64 (tlen t)) ∧ w' = w := by
  have hb0 : bt t 0 = 39 := by rw [bt_in h0]; exact hc
  obtain ⟨R, hR⟩ : ∃ R, tlen t = R := ⟨_, rfl⟩
  have HQ : Hid (qscan t 39 t.size 1 = R) := (by rw [← hR]; unfold tlen; rw [if_pos (by rw [hb0]; rfl), hb0] : qscan t 39 t.size 1 = R)
  rw [hR]
  clear hR hb0
  go_enter Try.func30, Try.ntmps30
  go_wp2
  go_loop [4] (fun p => ∃ j : Nat, p = .int .i64 j ∧ 1 ≤ j ∧ j ≤ t.size + 1 ∧ Hid (∃ f, t.size ≤ f + j ∧ qscan t 39 f j = R)) (fun p => t.size + 1 - (intOf p).toNat)
  case atStart => exact ⟨1, rfl, Nat.le_refl _, by omega, ⟨t.size, by omega, HQ.out⟩⟩
  case round =>
    obtain ⟨j, rfl, hj1, hj2, HF⟩ := hrel
    by_cases hlt : j < t.size
    · have HJ : Hid (bt t j = (t[j].toNat : Int)) := bt_in hlt
      by_cases h92 : ((t[j].toNat : Int) == 92) = true
      · have HN : Hid (∃ f', t.size ≤ f' + (j + 2) ∧ qscan t 39 f' (j + 2) = R) := (by obtain ⟨f, f1, f2⟩ := HF.out; exact q_esc f2 f1 hlt (by rw [HJ.out]; simpa using h92) : ∃ f', t.size ≤ f' + (j + 2) ∧ qscan t 39 f' (j + 2) = R)
        go_wp2
        go_round
        case rel => exact ⟨j + 2, by go_num, by omega, by omega, HN.out⟩
        case measure => simp [intOf]; omega
      · have h92' : ((t[j].toNat : Int) == 92) = false := by simpa using h92
        clear h92
        have HB : Hid (bt t j ≠ 92) := (by rw [HJ.out]; simpa using h92' : bt t j ≠ 92)
        by_cases he : ((t[j].toNat : Int) == 39) = true
        · have HE : Hid (R = j + 1) := (by obtain ⟨f, f1, f2⟩ := HF.out; exact q_hit f2 f1 hlt HB.out (by rw [HJ.out]; simpa using he) : R = j + 1)
          go_wp2
          go_ret
          exact ⟨ret_int (by rw [HE.out]; simp), rfl⟩
        · have he' : ((t[j].toNat : Int) == 39) = false := by simpa using he
          clear he
          have HN : Hid (∃ f', t.size ≤ f' + (j + 1) ∧ qscan t 39 f' (j + 1) = R) := (by obtain ⟨f, f1, f2⟩ := HF.out; exact q_next f2 f1 hlt HB.out (by rw [HJ.out]; simpa using he') : ∃ f', t.size ≤ f' + (j + 1) ∧ qscan t 39 f' (j + 1) = R)
          go_wp2
          go_round
          case rel => exact ⟨j + 1, by go_num, by omega, by omega, HN.out⟩
          case measure => simp [intOf]; omega
    · have HE : Hid (R = t.size) := (by obtain ⟨f, f1, f2⟩ := HF.out; rw [← f2, qscan_out (by omega)] : R = t.size)
      go_wp2
      go_ret
      exact ⟨ret_int (by rw [HE.out]), rfl⟩

set_option maxHeartbeats 1000000 in
theorem len_q34 (t : ByteArray) (w : World) (ht : t.size ≤ 1048576) (h0 : 0 < t.size) (hc : (t[0].toNat : Int) = 34) :
    Calls Try.prog 30 #[.string t] w fun e w' => e = .returned (.int .i64 (tlen t)) ∧ w' = w := by
  have hb0 : bt t 0 = 34 := by rw [bt_in h0]; exact hc
  obtain ⟨R, hR⟩ : ∃ R, tlen t = R := ⟨_, rfl⟩
  have HQ : Hid (qscan t 34 t.size 1 = R) := (by rw [← hR]; unfold tlen; rw [if_pos (by rw [hb0]; rfl), hb0] : qscan t 34 t.size 1 = R)
  rw [hR]
  clear hR hb0
  go_enter Try.func30, Try.ntmps30
  go_wp2
  go_loop [4] (fun p => ∃ j : Nat, p = .int .i64 j ∧ 1 ≤ j ∧ j ≤ t.size + 1 ∧ Hid (∃ f, t.size ≤ f + j ∧ qscan t 34 f j = R)) (fun p => t.size + 1 - (intOf p).toNat)
  case atStart => exact ⟨1, rfl, Nat.le_refl _, by omega, ⟨t.size, by omega, HQ.out⟩⟩
  case round =>
    obtain ⟨j, rfl, hj1, hj2, HF⟩ := hrel
    by_cases hlt : j < t.size
    · have HJ : Hid (bt t j = (t[j].toNat : Int)) := bt_in hlt
      by_cases h92 : ((t[j].toNat : Int) == 92) = true
      · have HN : Hid (∃ f', t.size ≤ f' + (j + 2) ∧ qscan t 34 f' (j + 2) = R) := (by obtain ⟨f, f1, f2⟩ := HF.out; exact q_esc f2 f1 hlt (by rw [HJ.out]; simpa using h92) : ∃ f', t.size ≤ f' + (j + 2) ∧ qscan t 34 f' (j + 2) = R)
        go_wp2
        go_round
        case rel => exact ⟨j + 2, by go_num, by omega, by omega, HN.out⟩
        case measure => simp [intOf]; omega
      · have h92' : ((t[j].toNat : Int) == 92) = false := by simpa using h92
        clear h92
        have HB : Hid (bt t j ≠ 92) := (by rw [HJ.out]; simpa using h92' : bt t j ≠ 92)
        by_cases he : ((t[j].toNat : Int) == 34) = true
        · have HE : Hid (R = j + 1) := (by obtain ⟨f, f1, f2⟩ := HF.out; exact q_hit f2 f1 hlt HB.out (by rw [HJ.out]; simpa using he) : R = j + 1)
          go_wp2
          go_ret
          exact ⟨ret_int (by rw [HE.out]; simp), rfl⟩
        · have he' : ((t[j].toNat : Int) == 34) = false := by simpa using he
          clear he
          have HN : Hid (∃ f', t.size ≤ f' + (j + 1) ∧ qscan t 34 f' (j + 1) = R) := (by obtain ⟨f, f1, f2⟩ := HF.out; exact q_next f2 f1 hlt HB.out (by rw [HJ.out]; simpa using he') : ∃ f', t.size ≤ f' + (j + 1) ∧ qscan t 34 f' (j + 1) = R)
          go_wp2
          go_round
          case rel => exact ⟨j + 1, by go_num, by omega, by omega, HN.out⟩
          case measure => simp [intOf]; omega
    · have HE : Hid (R = t.size) := (by obtain ⟨f, f1, f2⟩ := HF.out; rw [← f2, qscan_out (by omega)] : R = t.size)
      go_wp2
      go_ret
      exact ⟨ret_int (by rw [HE.out]), rfl⟩

set_option maxHeartbeats 1000000 in
theorem len_q96 (t : ByteArray) (w : World) (ht : t.size ≤ 1048576) (h0 : 0 < t.size) (hc : (t[0].toNat : Int) = 96) :
    Calls Try.prog 30 #[.string t] w fun e w' => e = .returned (.int .i64 (tlen t)) ∧ w' = w := by
  have hb0 : bt t 0 = 96 := by rw [bt_in h0]; exact hc
  obtain ⟨R, hR⟩ : ∃ R, tlen t = R := ⟨_, rfl⟩
  have HQ : Hid (qscan t 96 t.size 1 = R) := (by rw [← hR]; unfold tlen; rw [if_pos (by rw [hb0]; rfl), hb0] : qscan t 96 t.size 1 = R)
  rw [hR]
  clear hR hb0
  go_enter Try.func30, Try.ntmps30
  go_wp2
  go_loop [4] (fun p => ∃ j : Nat, p = .int .i64 j ∧ 1 ≤ j ∧ j ≤ t.size + 1 ∧ Hid (∃ f, t.size ≤ f + j ∧ qscan t 96 f j = R)) (fun p => t.size + 1 - (intOf p).toNat)
  case atStart => exact ⟨1, rfl, Nat.le_refl _, by omega, ⟨t.size, by omega, HQ.out⟩⟩
  case round =>
    obtain ⟨j, rfl, hj1, hj2, HF⟩ := hrel
    by_cases hlt : j < t.size
    · have HJ : Hid (bt t j = (t[j].toNat : Int)) := bt_in hlt
      by_cases h92 : ((t[j].toNat : Int) == 92) = true
      · have HN : Hid (∃ f', t.size ≤ f' + (j + 2) ∧ qscan t 96 f' (j + 2) = R) := (by obtain ⟨f, f1, f2⟩ := HF.out; exact q_esc f2 f1 hlt (by rw [HJ.out]; simpa using h92) : ∃ f', t.size ≤ f' + (j + 2) ∧ qscan t 96 f' (j + 2) = R)
        go_wp2
        go_round
        case rel => exact ⟨j + 2, by go_num, by omega, by omega, HN.out⟩
        case measure => simp [intOf]; omega
      · have h92' : ((t[j].toNat : Int) == 92) = false := by simpa using h92
        clear h92
        have HB : Hid (bt t j ≠ 92) := (by rw [HJ.out]; simpa using h92' : bt t j ≠ 92)
        by_cases he : ((t[j].toNat : Int) == 96) = true
        · have HE : Hid (R = j + 1) := (by obtain ⟨f, f1, f2⟩ := HF.out; exact q_hit f2 f1 hlt HB.out (by rw [HJ.out]; simpa using he) : R = j + 1)
          go_wp2
          go_ret
          exact ⟨ret_int (by rw [HE.out]; simp), rfl⟩
        · have he' : ((t[j].toNat : Int) == 96) = false := by simpa using he
          clear he
          have HN : Hid (∃ f', t.size ≤ f' + (j + 1) ∧ qscan t 96 f' (j + 1) = R) := (by obtain ⟨f, f1, f2⟩ := HF.out; exact q_next f2 f1 hlt HB.out (by rw [HJ.out]; simpa using he') : ∃ f', t.size ≤ f' + (j + 1) ∧ qscan t 96 f' (j + 1) = R)
          go_wp2
          go_round
          case rel => exact ⟨j + 1, by go_num, by omega, by omega, HN.out⟩
          case measure => simp [intOf]; omega
    · have HE : Hid (R = t.size) := (by obtain ⟨f, f1, f2⟩ := HF.out; rw [← f2, qscan_out (by omega)] : R = t.size)
      go_wp2
      go_ret
      exact ⟨ret_int (by rw [HE.out]), rfl⟩

set_option maxHeartbeats 1000000 in
theorem len_other (t : ByteArray) (w : World) (ht : t.size ≤ 1048576) (h0 : 0 < t.size) (n1 : ((t[0].toNat : Int) == 39) = false) (n2 : ((t[0].toNat : Int) == 34) = false) (n3 : ((t[0].toNat : Int) == 96) = false) :
    Calls Try.prog 30 #[.string t] w fun e w' => e = .returned (.int .i64 (tlen t)) ∧ w' = w := by
  have hb0 : bt t 0 = (t[0].toNat : Int) := bt_in h0
  have hq : quoteB (t[0].toNat : Int) = false := by unfold quoteB; rw [n1, n2, n3]; rfl
  obtain ⟨R, hR⟩ : ∃ R, tlen t = R := ⟨_, rfl⟩
  by_cases hw : wordB (t[0].toNat : Int) = true
  · have HQ : Hid (wscan t t.size 1 = R) := (by rw [← hR]; unfold tlen; rw [hb0, hq, if_neg (by simp), if_pos hw] : wscan t t.size 1 = R)
    rw [hR]
    clear hR hb0 hq
    go_enter Try.func30, Try.ntmps30
    go_wp2_with (go_at_call 34; refine (word_any _ _).mono ?_; rintro e w' ⟨rfl, rfl⟩)
    go_loop [5] (fun p => ∃ j : Nat, p = .int .i64 j ∧ 1 ≤ j ∧ j ≤ t.size ∧ Hid (∃ f, t.size ≤ f + j ∧ wscan t f j = R)) (fun p => t.size - (intOf p).toNat)
    case atStart => exact ⟨1, rfl, Nat.le_refl _, by omega, ⟨t.size, by omega, HQ.out⟩⟩
    case round =>
      obtain ⟨j, rfl, hj1, hj2, HF⟩ := hrel
      by_cases hlt : j < t.size
      · have HJ : Hid (bt t j = (t[j].toNat : Int)) := bt_in hlt
        by_cases hwj : wordB (t[j].toNat : Int) = true
        · have HN : Hid (∃ f', t.size ≤ f' + (j + 1) ∧ wscan t f' (j + 1) = R) := (by obtain ⟨f, f1, f2⟩ := HF.out; exact w_next f2 f1 hlt (by rw [HJ.out]; exact hwj) : ∃ f', t.size ≤ f' + (j + 1) ∧ wscan t f' (j + 1) = R)
          go_wp2_with (go_at_call 34; refine (word_any _ _).mono ?_; rintro e w' ⟨rfl, rfl⟩)
          go_round
          case rel => exact ⟨j + 1, by go_num, by omega, by omega, HN.out⟩
          case measure => simp [intOf]; omega
        · have hwj' : wordB (t[j].toNat : Int) = false := by simpa using hwj
          clear hwj
          have HE : Hid (R = j) := (by obtain ⟨f, f1, f2⟩ := HF.out; rw [← f2, wscan_stop (by rw [HJ.out, hwj']; simp)] : R = j)
          go_wp2_with (go_at_call 34; refine (word_any _ _).mono ?_; rintro e w' ⟨rfl, rfl⟩)
          go_ret
          exact ⟨ret_int (by rw [HE.out]), rfl⟩
      · have HE : Hid (R = j) := (by obtain ⟨f, f1, f2⟩ := HF.out; rw [← f2, wscan_stop (by omega)] : R = j)
        go_wp2
        go_ret
        exact ⟨ret_int (by rw [HE.out]), rfl⟩
  · have hw' : wordB (t[0].toNat : Int) = false := by simpa using hw
    clear hw
    have HE : Hid (R = 1) := (by rw [← hR]; unfold tlen; rw [hb0, hq, if_neg (by simp), hw', if_neg (by simp)] : R = 1)
    rw [hR]
    clear hR hb0 hq
    go_enter Try.func30, Try.ntmps30
    go_wp2_with (go_at_call 34; refine (word_any _ _).mono ?_; rintro e w' ⟨rfl, rfl⟩)
    go_ret
    exact ⟨ret_int (by rw [HE.out]; rfl), rfl⟩

theorem len_any (t : ByteArray) (w : World) (ht : t.size ≤ 1048576) (h0 : 0 < t.size) :
    Calls Try.prog 30 #[.string t] w fun e w' => e = .returned (.int .i64 (tlen t)) ∧ w' = w := by
  by_cases h1 : (t[0].toNat : Int) = 39
  · exact len_q39 t w ht h0 h1
  · by_cases h2 : (t[0].toNat : Int) = 34
    · exact len_q34 t w ht h0 h2
    · by_cases h3 : (t[0].toNat : Int) = 96
      · exact len_q96 t w ht h0 h3
      · exact len_other t w ht h0 (by simpa using h1) (by simpa using h2) (by simpa using h3)
end Go.Proofs.Qxb6602321a
