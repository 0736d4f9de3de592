/-
  THE WALK OF FnPlainEndFlowOrder: zzFlowIndicator, zzHasFlowIndicator, the bound on the length, the law.
-/
import Derived.Test.Qxb6601822aMade
import Derived.ProofKit
import Derived.RowKit3
import Derived.OpenShut
namespace Go.Proofs.Qxb6601822a
open Go.RowKit
set_option linter.unusedVariables false
set_option linter.unusedSimpArgs false

set_option maxHeartbeats 400000 in
theorem ind_any (c : Int) (w : World) :
    Calls Try.prog 26 #[.int .u8 c] w fun e w' => e = .returned (.bool (flowB c)) ∧ w' = w := by
  go_enter Try.func26, Try.ntmps26
  go_wp2
  all_goals
    go_ret
    exact ⟨ret_bool (by simp [flowB, *]), rfl⟩

theorem bt_extract (s : ByteArray) (i b k : Nat) (hb : b ≤ s.size) (hk : i + k < b) : bt (s.extract i b) k = bt s (i + k) := by
  rw [bt_in (s := s) (by omega), bt_in (by rw [ByteArray.size_extract]; omega)]
  rw [ByteArray.getElem_extract]

def hasB (t : ByteArray) : Bool := (List.range t.size).any fun k => flowB (bt t k)
theorem has_iff (t : ByteArray) : hasB t = true ↔ ∃ k, k < t.size ∧ flowB (bt t k) = true := by
  simp [hasB]

set_option maxHeartbeats 400000 in
theorem has_any (t : ByteArray) (w : World) (ht : t.size ≤ 1048576) :
    Calls Try.prog 15 #[.string t] w fun e w' => e = .returned (.bool (hasB t)) ∧ w' = w := by
  go_enter Try.func15, Try.ntmps15
  go_wp2
  go_loop [3] (fun p => ∃ k : Nat, p = .int .i64 k ∧ k ≤ t.size ∧ Hid (∀ x, x < k → flowB (bt t x) = false)) (fun p => t.size - (intOf p).toNat)
  case atStart => exact ⟨0, rfl, by omega, fun x h => by omega⟩
  case round =>
    obtain ⟨k, rfl, hk, HF⟩ := hrel
    by_cases hlt : k < t.size
    · have hbt := bt_in hlt
      by_cases hf : flowB (t[k].toNat : Int) = true
      · have HE : Hid (∃ k, k < t.size ∧ flowB (bt t k) = true) := ⟨k, hlt, by rw [hbt]; exact hf⟩
        clear hbt
        go_wp2_with (go_at_call 26; refine (ind_any _ _).mono ?_; rintro e w' ⟨rfl, rfl⟩)
        go_ret
        exact ⟨ret_bool ((has_iff t).2 HE.out).symm, rfl⟩
      · have hf' : flowB (t[k].toNat : Int) = false := by simpa using hf
        clear hf
        have HE : Hid (flowB (bt t k) = false) := (by rw [hbt]; exact hf' : flowB (bt t k) = false)
        clear hbt
        go_wp2_with (go_at_call 26; refine (ind_any _ _).mono ?_; rintro e w' ⟨rfl, rfl⟩)
        go_round
        case rel =>
          refine ⟨k + 1, by go_num, by omega, fun x h => ?_⟩
          by_cases hx : x < k
          · exact HF.out x hx
          · have : x = k := by omega
            subst this; exact HE.out
        case measure => simp [intOf]; omega
    · go_wp2
      go_ret
      refine ⟨ret_bool ?_, rfl⟩
      cases hh : hasB t with
      | false => rfl
      | true =>
        obtain ⟨x, h1, h2⟩ := (has_iff t).1 hh
        have := HF.out x (by omega)
        rw [h2] at this; cases this

set_option maxHeartbeats 400000 in
theorem bytes14_any (s : ByteArray) (a1 a2 a3 a4 a5 a6 a7 : Int) (w : World) (hs : s.size ≤ maxLen) :
    Calls Try.prog 14 #[.string s, .int .i64 a1, .int .i64 a2, .int .i64 a3, .int .i64 a4, .int .i64 a5, .int .i64 a6, .int .i64 a7] w fun e w' =>
      e = .returned (.bool (lenB s.size)) ∧ w' = w := by
  unfold maxLen at hs
  go_enter Try.func14, Try.ntmps14
  go_wp2
  all_goals
    go_ret
    exact ⟨ret_bool (by simp [lenB]; omega), rfl⟩

/-- The plain law's last row: the two ends agree just where the block scalar holds no flow indicator. -/
theorem flow_last {s : ByteArray} {i a b : Nat} (h1 : PE s i true a) (h2 : PE s i false b) (hi : i ≤ s.size) :
    ((a : Int) == (b : Int)) = !hasB (s.extract i b) := by
  have hb := PE_hi hi h2
  have hl := PE_lo h2
  have hz : (s.extract i b).size = b - i := by rw [ByteArray.size_extract]; omega
  obtain ⟨hab, hiff⟩ := flow_law h1 h2
  cases hh : hasB (s.extract i b) with
  | true =>
    obtain ⟨k, hk, hf⟩ := (has_iff _).1 hh
    rw [bt_extract s i b k hb (by omega)] at hf
    have := hiff.1 ⟨i + k, by omega, by omega, hf⟩
    simp; omega
  | false =>
    have : ¬ a ≠ b := by
      intro hne
      obtain ⟨k, k1, k2, k3⟩ := hiff.2 hne
      have : hasB (s.extract i b) = true := (has_iff _).2 ⟨k - i, by omega, by rw [bt_extract s i b _ hb (by omega), show i + (k - i) = k by omega]; exact k3⟩
      rw [hh] at this; cases this
    simp; omega

namespace fnPlainEndFlowOrder
set_option maxHeartbeats 1000000 in
theorem walk (a0 : ByteArray) (a1 : Int) (a2 : Int) (a3 : Int) (a4 : Int) (a5 : Int) (a6 : Int) (a7 : Int) (w0 : a0.size ≤ maxLen) (w1 : (Lit.int .i64 a1).wf = true) (w2 : (Lit.int .i64 a2).wf = true) (w3 : (Lit.int .i64 a3).wf = true) (w4 : (Lit.int .i64 a4).wf = true) (w5 : (Lit.int .i64 a5).wf = true) (w6 : (Lit.int .i64 a6).wf = true) (w7 : (Lit.int .i64 a7).wf = true) (w : World) :
    Calls Try.prog 5 #[.string a0, .int .i64 a1, .int .i64 a2, .int .i64 a3, .int .i64 a4, .int .i64 a5, .int .i64 a6, .int .i64 a7] w fun e w' => e = .returned (.bool true) ∧ Grown w w' := by
  by_cases hB : lenB a0.size = true
  · have hb : a0.size ≤ 1048576 := by simpa [lenB] using hB
    by_cases h3 : a7 < 0
    · go_enter Try.func5, Try.ntmps5
      go_wp2_with (go_at_call 14; refine (bytes14_any a0 a1 a2 a3 a4 a5 a6 a7 _ w0).mono ?_; rintro e w' ⟨rfl, rfl⟩)
      go_ret
      exact ⟨rfl, Grown.refl _⟩
    · obtain ⟨i, rfl⟩ := Int.eq_ofNat_of_zero_le (show 0 ≤ a7 by omega)
      have hi : i ≤ 9223372036854775807 := by have := (bounds_i64 w7).2; omega
      go_enter Try.func5, Try.ntmps5
      go_wp2_with (go_at_call 14; refine (bytes14_any a0 a1 a2 a3 a4 a5 a6 _ _ w0).mono ?_; rintro e w' ⟨rfl, hw⟩; obtain rfl := hw.symm; clear hw)
      refine (reader_any a0 a1 a2 a3 a4 a5 a6 _).mono ?_
      rintro e w' ⟨cs, rfl, hcs, rfl⟩
      have hc : (w.alloc (.cells cs 49)).cell? ⟨w.heap.size, 0, none⟩ = some (.string a0) := by
        simp [hcs]
      go_wp2_with fail
      refine (zzEnd_any a0 i true _ _ hb hi hc).mono ?_
      rintro e w' ⟨n1, rfl, hn1, hw⟩
      obtain rfl := hw.symm
      clear hw
      have HN1 : Hid (PE a0 i true n1) := hn1
      clear hn1
      go_wp2_with fail
      refine (zzEnd_any a0 i false _ _ hb hi hc).mono ?_
      rintro e w' ⟨n2, rfl, hn2, hw⟩
      obtain rfl := hw.symm
      clear hw
      have HN2 : Hid (PE a0 i false n2) := hn2
      clear hn2
      by_cases hp : a0.size ≤ i
      · have e1 := PE_past hp HN1.out
        have e2 := PE_past hp HN2.out
        subst e1
        subst e2
        go_wp2_with fail
        go_ret
        exact ⟨ret_bool (by simp), (Grown.refl _).alloc _ _⟩
      · have l1 := PE_lo HN1.out
        have l2 := PE_hi (by omega) HN2.out
        have l3 := (flow_law HN1.out HN2.out).1
        have HL : Hid (((n1 : Int) == (n2 : Int)) = !hasB (a0.extract i n2)) := flow_last HN1.out HN2.out (by omega)
        go_wp2_with (go_at_call 15; refine (has_any _ _ (by rw [ByteArray.size_extract]; omega)).mono ?_; rintro e w' ⟨rfl, hw⟩; obtain rfl := hw.symm; clear hw)
        go_ret
        exact ⟨ret_bool (by rw [HL.out]; simp), (Grown.refl _).alloc _ _⟩
  · have hB' : lenB a0.size = false := by simpa using hB
    clear hB
    go_enter Try.func5, Try.ntmps5
    go_wp2_with (go_at_call 14; refine (bytes14_any a0 a1 a2 a3 a4 a5 a6 a7 _ w0).mono ?_; rintro e w' ⟨rfl, rfl⟩)
    go_ret
    exact ⟨rfl, Grown.refl _⟩
end fnPlainEndFlowOrder
end Go.Proofs.Qxb6601822a
