/-
  THE WALK OF FnBlockEndCutsFileIntoWholeLines.
-/
import Derived.Test.Qxb6602932aClone
namespace Go.Proofs.Qxb6602932a.fnBlockEndCutsFileIntoWholeLines
open Go.RowKit
set_option linter.unusedVariables false
set_option linter.unusedSimpArgs false

/-- WHAT THE WALK IS TOLD OF A SLICE OF INTEGERS THAT CAME IN: it is nil; or it leads to a row of 'cap' cells, the numbers 'zs' (the first 'len' are its elements, the rest its spare room), each fitting its kind. -/
def IsRow (k : IntKind) (w : World) (a : Option Addr) (len cap : Nat) (zs : List Int) : Prop :=
  (a = none ∧ len = 0 ∧ cap = 0 ∧ zs = []) ∨
  ∃ x, a = some x ∧ len ≤ cap ∧ cap ≤ maxLen ∧ zs.length = cap ∧ (∀ i, i < zs.length → w.cell? (x.add i) = some (.int k (zs.getD i 0))) ∧ ∀ n ∈ zs, (Lit.int k n).wf = true

set_option maxHeartbeats 2000000 in
theorem walk (a0 : Option Addr) (len0 cap0 : Nat) (z0 : List Int) (a1 : Int) (w : World) (w0 : IsRow .u8 w a0 len0 cap0 z0) (w1 : (Lit.int .i64 a1).wf = true) :
    Calls Try.prog 8 #[.slice a0 len0 cap0, .int .i64 a1] w fun e w' => e = .returned (.bool true) ∧ Below w.heap.size w w' := by
  have hmax : len0 ≤ maxLen := by
    rcases w0 with ⟨_, h, _⟩ | ⟨x, _, h1, h2, _⟩
    · rw [h]; unfold maxLen; omega
    · omega
  have b1 := bounds_i64 w1
  have HW0 : Hid (IsRow .u8 w a0 len0 cap0 z0) := w0
  clear w0 w1
  by_cases hB : lenB len0 = true
  · have hb : len0 ≤ 1048576 := by simpa [lenB] using hB
    by_cases h3 : a1 < 0
    · go_enter Try.func8, Try.ntmps8
      go_wp2_with (go_at_call 19; refine (bytes19_any _ _ _ _ _ hmax).mono ?_; rintro e w' ⟨rfl, hw⟩; obtain rfl := hw.symm; clear hw)
      go_ret
      exact ⟨rfl, Below.refl _ _⟩
    · obtain ⟨bs, rfl⟩ := Int.eq_ofNat_of_zero_le (show 0 ≤ a1 by omega)
      by_cases h4 : (bs : Int) ≤ 9223372036854775807 - len0
      · rcases HW0.out with ⟨rfl, rfl, rfl, rfl⟩ | ⟨x, rfl, hlc, hcm, hzl, hcell, hwf⟩
        · go_enter Try.func8, Try.ntmps8
          go_wp2_with (first | (go_at_call 19; refine (bytes19_any _ _ _ _ _ hmax).mono ?_; rintro e w' ⟨rfl, hw⟩; obtain rfl := hw.symm; clear hw) | (go_at_call 16; refine (max_any _).mono ?_; rintro e w' ⟨rfl, hw⟩; obtain rfl := hw.symm; clear hw) | (go_at_call 10; refine (clone_nil _).mono ?_; rintro e w' ⟨rfl, hw⟩; obtain rfl := hw.symm; clear hw))
          go_loop [5] (fun p => p = .int .i64 0) (fun _ => 0)
          case atStart => exact rfl
          case round =>
            subst hrel
            go_wp2_with fail
            refine (zzEnd_i none [] 0 0 bs _ _ (by simp) rfl _ rfl (by omega) (by omega) (Or.inl ⟨rfl, rfl⟩) (by simp)).mono ?_
            rintro e w2 ⟨⟨m, rfl, hm⟩, hb2⟩
            have hm0 : m = 0 := BE_far hm (by simp)
            subst hm0
            clear hm
            have HB2 : Hid (Below w.heap.size w w2) := hb2
            clear hb2
            go_wp2
            go_ret
            exact ⟨ret_bool (by simp), HB2.out⟩
        · have HLEN : Hid ((z0.take len0).length = len0) := (by rw [List.length_take]; omega : (z0.take len0).length = len0)
          have HBY : Hid (∀ x ∈ z0.take len0, 0 ≤ x ∧ x ≤ 255) := bytes_of_wf len0 hwf
          have HCELL : Hid (∀ i, i < z0.length → w.cell? (x.add i) = some (.int .u8 (z0.getD i 0))) := hcell
          have HZL : Hid (z0.length = cap0) := hzl
          clear hcell hwf hzl
          go_enter Try.func8, Try.ntmps8
          go_wp2_with (first | (go_at_call 19; refine (bytes19_any _ _ _ _ _ hmax).mono ?_; rintro e w' ⟨rfl, hw⟩; obtain rfl := hw.symm; clear hw) | (go_at_call 16; refine (max_any _).mono ?_; rintro e w' ⟨rfl, hw⟩; obtain rfl := hw.symm; clear hw) | (go_at_call 10; refine (clone_row x len0 cap0 z0 _ hlc hb HZL.out HCELL.out).mono ?_; rintro e w1 ⟨rfl, hdat, hb1⟩; have HDA : Hid (Data w1 (some ⟨w.heap.size, 0, none⟩) (z0.take len0)) := hdat; have HB1 : Hid (Below w.heap.size w w1) := hb1; clear hdat hb1))
          go_loopw [5] (fun p wr => ∃ k : Nat, p = .int .i64 k ∧ k ≤ len0 ∧ Hid (Data wr (some ⟨w.heap.size, 0, none⟩) (z0.take len0)) ∧ Hid (Below w.heap.size w wr)) (fun p _ => len0 - (intOf p).toNat)
          case atStart => exact ⟨0, rfl, Nat.zero_le _, HDA, HB1⟩
          case round =>
            obtain ⟨k, rfl, hk, HDR, HBR⟩ := hrel
            clear HDA HB1
            by_cases hkl : k < len0
            · go_wp2_with fail
              refine (zzEnd_any (some ⟨w.heap.size, 0, none⟩) (z0.take len0) len0 k bs _ HLEN.out (by omega) hb HDR.out HBY.out).mono ?_
              rintro e w2 ⟨⟨m, rfl, hm⟩, hb2⟩
              have HB2 : Hid (Below w.heap.size w w2) := HBR.out.trans (hb2.mono HBR.out.size)
              have HD2 : Hid (Data w2 (some ⟨w.heap.size, 0, none⟩) (z0.take len0)) := HDR.out.below hb2
              clear hb2
              by_cases hml : m = len0
              · subst hml
                clear hm
                go_wp2
                go_roundw
                case rel => exact ⟨m, rfl, Nat.le_refl _, HD2, HB2⟩
                case measure => simp [intOf]; omega
              · have hnear : k + bs < len0 := by
                  by_cases h : len0 ≤ k + bs
                  · exact absurd ((BE_far hm (by rw [HLEN.out]; exact h)).trans HLEN.out) hml
                  · omega
                obtain ⟨n1, n2, n3, n4⟩ := BE_near hm (by rw [HLEN.out]; exact hnear)
                rw [HLEN.out] at n2 n3
                clear hm n4
                obtain ⟨m, rfl⟩ : ∃ y, m = y + 1 := ⟨m - 1, by omega⟩
                have hlast : m + 1 < len0 := by omega
                have hc10 : w2.cell? ⟨w.heap.size, m, none⟩ = some (.int .u8 10) := by
                  rw [HD2.out.cell (by rw [HLEN.out]; omega)]
                  have := n3 hlast
                  rw [Nat.add_sub_cancel] at this
                  rw [this]
                clear n3 n2 hml
                go_wp2
                go_roundw
                case rel => exact ⟨m + 1, by go_num, by omega, HD2, HB2⟩
                case measure => simp [intOf]; omega
            · have hke : k = len0 := by omega
              subst hke
              go_wp2_with fail
              refine (zzEnd_any (some ⟨w.heap.size, 0, none⟩) (z0.take k) k k bs _ HLEN.out (by omega) hb HDR.out HBY.out).mono ?_
              rintro e w2 ⟨⟨m, rfl, hm⟩, hb2⟩
              have HB2 : Hid (Below w.heap.size w w2) := HBR.out.trans (hb2.mono HBR.out.size)
              clear hb2
              have hml : m = k := (BE_far hm (by rw [HLEN.out]; omega)).trans HLEN.out
              subst hml
              clear hm
              go_wp2
              go_ret
              exact ⟨ret_bool (by simp), HB2.out⟩
      · go_enter Try.func8, Try.ntmps8
        go_wp2_with (first | (go_at_call 19; refine (bytes19_any _ _ _ _ _ hmax).mono ?_; rintro e w' ⟨rfl, hw⟩; obtain rfl := hw.symm; clear hw) | (go_at_call 16; refine (max_any _).mono ?_; rintro e w' ⟨rfl, hw⟩; obtain rfl := hw.symm; clear hw))
        go_ret
        exact ⟨rfl, Below.refl _ _⟩
  · have hB' : lenB len0 = false := by simpa using hB
    clear hB
    go_enter Try.func8, Try.ntmps8
    go_wp2_with (go_at_call 19; refine (bytes19_any _ _ _ _ _ hmax).mono ?_; rintro e w' ⟨rfl, hw⟩; obtain rfl := hw.symm; clear hw)
    go_ret
    exact ⟨rfl, Below.refl _ _⟩
end Go.Proofs.Qxb6602932a.fnBlockEndCutsFileIntoWholeLines
