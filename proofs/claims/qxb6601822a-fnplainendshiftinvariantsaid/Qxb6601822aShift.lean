/-
  THE WALK OF FnPlainEndShiftInvariant.
-/
import Derived.Test.Qxb6601822aMade
import Derived.ProofKit
import Derived.RowKit3
namespace Go.Proofs.Qxb6601822a.fnPlainEndShiftInvariant
open Go.RowKit
set_option linter.unusedVariables false
set_option linter.unusedSimpArgs false

/-! ### STEP 1: THE WALK: the Go text returns true. 'Grown w w'': the world has at most new blocks (Derived/RowKit3.lean). Part the cases AHEAD of 'go_enter' where a test parts the walk; take each callee by a contract of your own. -/
theorem walk (a0 : ByteArray) (a1 : ByteArray) (a2 : Int) (a3 : Int) (a4 : Int) (a5 : Int) (a6 : Int) (a7 : Int) (a8 : Int) (a9 : Bool) (w0 : a0.size ≤ maxLen) (w1 : a1.size ≤ maxLen) (w2 : (Lit.int .i64 a2).wf = true) (w3 : (Lit.int .i64 a3).wf = true) (w4 : (Lit.int .i64 a4).wf = true) (w5 : (Lit.int .i64 a5).wf = true) (w6 : (Lit.int .i64 a6).wf = true) (w7 : (Lit.int .i64 a7).wf = true) (w8 : (Lit.int .i64 a8).wf = true) (w : World) :
    Calls Try.prog 6 #[.string a0, .string a1, .int .i64 a2, .int .i64 a3, .int .i64 a4, .int .i64 a5, .int .i64 a6, .int .i64 a7, .int .i64 a8, .bool a9] w fun e w' => e = .returned (.bool true) ∧ Grown w w' := by
  by_cases hB : lenB (a0.size + a1.size) = true
  · have hb : a0.size + a1.size ≤ 1048576 := by simpa [lenB] using hB
    by_cases h1 : a0.size ≤ 524288
    · by_cases h2 : a1.size ≤ 524288
      · by_cases h3 : a8 < 0
        · go_enter Try.func6, Try.ntmps6
          go_wp2_with (go_at_call 16; refine (bytes16_any a0 a1 a2 a3 a4 a5 a6 a7 a8 a9 _ w0 w1).mono ?_; rintro e w' ⟨rfl, rfl⟩)
          go_ret
          exact ⟨rfl, Grown.refl _⟩
        · by_cases h4 : a8 ≤ 9223372036854775807 - a0.size
          · obtain ⟨i, rfl⟩ := Int.eq_ofNat_of_zero_le (show 0 ≤ a8 by omega)
            go_enter Try.func6, Try.ntmps6
            go_wp2_with (go_at_call 16; refine (bytes16_any a0 a1 a2 a3 a4 a5 a6 a7 _ a9 _ w0 w1).mono ?_; rintro e w' ⟨rfl, hw⟩; obtain rfl := hw.symm; clear hw)
            refine (reader_any a1 a2 a3 a4 a5 a6 a7 _).mono ?_
            rintro e w' ⟨cs, rfl, hcs, rfl⟩
            have hc : (w.alloc (.cells cs 49)).cell? ⟨w.heap.size, 0, none⟩ = some (.string a1) := by
              simp [hcs]
            go_wp2_with fail
            refine (zzEnd_any a1 i a9 _ _ (by omega) (by omega) hc).mono ?_
            rintro e w' ⟨n, rfl, hn, hw⟩
            obtain rfl := hw.symm
            clear hw
            have HN : Hid (PE a1 i a9 n) := hn
            clear hn
            go_wp2_with fail
            refine (reader_any (a0 ++ a1) a2 a3 a4 a5 a6 a7 _).mono ?_
            rintro e w' ⟨cs2, rfl, hcs2, rfl⟩
            have hc2 : ((w.alloc (.cells cs 49)).alloc (.cells cs2 49)).cell? ⟨(w.alloc (.cells cs 49)).heap.size, 0, none⟩ = some (.string (a0 ++ a1)) := by
              rw [World.cell?_alloc_at _ _ _ _ rfl]; exact hcs2
            rw [World.size_alloc] at hc2 ⊢
            go_wp2_with fail
            refine (zzEnd_i (a0 ++ a1) (a0.size + i) _ (by omega) a9 _ _ (by rw [ByteArray.size_append]; omega) (by omega) hc2).mono ?_
            rintro e w' ⟨n2, rfl, hn2, hw⟩
            obtain rfl := hw.symm
            clear hw
            have hl := shift_law HN.out hn2
            subst hl
            have hh := PE_bound HN.out
            have hn3 : (a0.size : Int) + n ≤ 9223372036854775807 := by omega
            clear hh hn2
            go_wp2_with fail
            go_ret
            exact ⟨ret_bool (by simp), ((Grown.refl _).alloc _ _).alloc _ _⟩
          · go_enter Try.func6, Try.ntmps6
            go_wp2_with (go_at_call 16; refine (bytes16_any a0 a1 a2 a3 a4 a5 a6 a7 a8 a9 _ w0 w1).mono ?_; rintro e w' ⟨rfl, rfl⟩)
            go_ret
            exact ⟨rfl, Grown.refl _⟩
      · go_enter Try.func6, Try.ntmps6
        go_wp2_with (go_at_call 16; refine (bytes16_any a0 a1 a2 a3 a4 a5 a6 a7 a8 a9 _ w0 w1).mono ?_; rintro e w' ⟨rfl, rfl⟩)
        go_ret
        exact ⟨rfl, Grown.refl _⟩
    · go_enter Try.func6, Try.ntmps6
      go_wp2_with (go_at_call 16; refine (bytes16_any a0 a1 a2 a3 a4 a5 a6 a7 a8 a9 _ w0 w1).mono ?_; rintro e w' ⟨rfl, rfl⟩)
      go_ret
      exact ⟨rfl, Grown.refl _⟩
  · have hB' : lenB (a0.size + a1.size) = false := by simpa using hB
    clear hB
    go_enter Try.func6, Try.ntmps6
    go_wp2_with (go_at_call 16; refine (bytes16_any a0 a1 a2 a3 a4 a5 a6 a7 a8 a9 _ w0 w1).mono ?_; rintro e w' ⟨rfl, rfl⟩)
    go_ret
    exact ⟨rfl, Grown.refl _⟩

end Go.Proofs.Qxb6601822a.fnPlainEndShiftInvariant
