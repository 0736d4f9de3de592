/-
  THE WALK OF nextToken, ZZnextToken.
-/
import Derived.Test.Qxb6602321aLen
import Derived.ProofKit
import Derived.RowKit3
import Derived.OpenShut
namespace Go.Proofs.Qxb6602321a
open Go.RowKit
set_option linter.unusedVariables false
set_option linter.unusedSimpArgs false

def NTPost (q : ByteArray) (i : Nat) (en : Ending) : Prop := ∃ s e : Nat, en = .returned (.tuple #[.int .i64 s, .int .i64 e]) ∧ NT q i s e
theorem ret_nt {q : ByteArray} {i s e : Nat} {a b : Int} (h : NT q i s e) (h1 : a = s) (h2 : b = e) : NTPost q i (.returned (.tuple #[.int .i64 a, .int .i64 b])) :=
  ⟨s, e, by rw [h1, h2], h⟩

theorem tail_size {q : ByteArray} {k : Nat} (h : k < q.size) : (q.extract k q.size).size = q.size - k := by rw [ByteArray.size_extract]; omega

theorem tok_step {q : ByteArray} {i k : Nat} (h : k = i ∨ tokB (q.extract i q.size) = false) (g : tokB (q.extract k q.size) = false) : tokB (q.extract i q.size) = false := by
  rcases h with h | h
  · rw [← h]; exact g
  · exact h

set_option maxHeartbeats 2000000 in
theorem next_any (q : ByteArray) (i : Nat) (w : World) (hq : q.size ≤ 1048576) (hi : i ≤ 9223372036854775807) (hsh : w.ShapedOpen Try.prog) :
    Calls Try.prog 25 #[.string q, .int .i64 i] w fun en w' => NTPost q i en ∧ w' = w := by
  have HSH : Hid (w.ShapedOpen Try.prog) := hsh
  clear hsh
  go_enter Try.func25, Try.ntmps25
  go_wp2
  go_loop [1] (fun p => ∃ k : Nat, p = .int .i64 k ∧ i ≤ k ∧ k ≤ 9223372036854775807 ∧ Hid (k = i ∨ (tokB (q.extract i q.size) = false))) (fun p => q.size - (intOf p).toNat)
  case atStart => exact ⟨i, rfl, Nat.le_refl _, hi, Or.inl rfl⟩
  case round =>
    obtain ⟨k, rfl, hik, hk, HT⟩ := hrel
    by_cases hlt : k < q.size
    · have hz := tail_size hlt
      have HB0 : Hid (bt (q.extract k q.size) 0 = ((q.extract k q.size)[0].toNat : Int)) := bt_in (by omega)
      by_cases hbl : blankB (bt (q.extract k q.size) 0) = true
      · have HF : Hid (tokB (q.extract i q.size) = false) := tok_step HT.out (by unfold tokB; rw [hbl]; rfl)
        go_wp2_with fail
        refine (blank_any _ _).mono ?_
        rintro e w' ⟨n0, rfl, hn0, hw⟩
        obtain rfl := hw.symm
        clear hw
        rw [← HB0.out] at hn0
        have hn : 0 ≤ n0 := by rw [hbl] at hn0; simpa using hn0
        clear hn0
        go_wp2_with fail
        go_round
        case rel => exact ⟨k + 1, by go_num, by omega, by omega, Or.inr HF.out⟩
        case measure => simp [intOf]; omega
      · have hbl' : blankB (bt (q.extract k q.size) 0) = false := by simpa using hbl
        clear hbl
        by_cases hd : dashB (q.extract k q.size) = true
        · have HF : Hid (tokB (q.extract i q.size) = false) := tok_step HT.out (by unfold tokB; rw [hd]; simp)
          have HE : Hid (NT q i q.size q.size) := Or.inl ⟨rfl, rfl, fun _ => HF.out⟩
          go_wp2_with fail
          refine (blank_any _ _).mono ?_
          rintro e w' ⟨n0, rfl, hn0, hw⟩
          obtain rfl := hw.symm
          clear hw
          rw [← HB0.out] at hn0
          have hn : n0 < 0 := by rw [hbl'] at hn0; simpa using hn0
          clear hn0
          go_wp2_with (go_at_call 28; refine (dash_any _ _).mono ?_; rintro e w' ⟨rfl, hw⟩; obtain rfl := hw.symm; clear hw)
          refine (nl_any _ _ _).mono ?_
          rintro e w' ⟨n1, rfl, hn1, hw⟩
          obtain rfl := hw.symm
          clear hw
          rcases hn1 with hn1 | ⟨hn1, hn2⟩
          · subst hn1
            go_wp2_with fail
            go_ret2
            exact ⟨ret_nt HE.out rfl rfl, rfl⟩
          · obtain ⟨m, rfl⟩ := Int.eq_ofNat_of_zero_le hn1
            have hm : k + m + 1 ≤ q.size := by rw [hz] at hn2; omega
            clear hn2
            go_wp2_with fail
            go_round
            case rel => exact ⟨k + m + 1, by go_num, by omega, by omega, Or.inr HF.out⟩
            case measure => simp [intOf]; omega
        · have hd' : dashB (q.extract k q.size) = false := by simpa using hd
          clear hd
          by_cases ho : openB (q.extract k q.size) = true
          · have HF : Hid (tokB (q.extract i q.size) = false) := tok_step HT.out (by unfold tokB; rw [ho]; simp)
            have HE : Hid (NT q i q.size q.size) := Or.inl ⟨rfl, rfl, fun _ => HF.out⟩
            have hs2 := open_size ho
            have hk2 : k + 2 ≤ q.size := by rw [hz] at hs2; omega
            go_wp2_with fail
            refine (blank_any _ _).mono ?_
            rintro e w' ⟨n0, rfl, hn0, hw⟩
            obtain rfl := hw.symm
            clear hw
            rw [← HB0.out] at hn0
            have hn : n0 < 0 := by rw [hbl'] at hn0; simpa using hn0
            clear hn0
            go_wp2_with fail
            refine (dash_any _ _).mono ?_
            rintro e w' ⟨rfl, hw⟩
            obtain rfl := hw.symm
            clear hw
            go_wp2_with fail
            refine (open_any _ _).mono ?_
            rintro e w' ⟨rfl, hw⟩
            obtain rfl := hw.symm
            clear hw
            go_wp2_with fail
            have hz2 : ((q.extract k q.size).extract 2 (q.size - k)).size = q.size - k - 2 := by rw [ByteArray.size_extract, hz]; omega
            refine (close_any _ _ HSH.out (by rw [hz2]; omega)).mono ?_
            rintro e w' ⟨n1, rfl, hn1, hw⟩
            obtain rfl := hw.symm
            clear hw
            rw [hz2] at hn1
            clear hz2
            rcases hn1 with hn1 | ⟨hn1, hn2⟩
            · subst hn1
              go_wp2_with fail
              go_ret2
              exact ⟨ret_nt HE.out rfl rfl, rfl⟩
            · obtain ⟨m, rfl⟩ := Int.eq_ofNat_of_zero_le hn1
              have hm : k + m + 4 ≤ q.size := by omega
              clear hn2
              go_wp2_with fail
              go_round
              case rel => exact ⟨k + m + 4, by go_num, by omega, by omega, Or.inr HF.out⟩
              case measure => simp [intOf]; omega
          · have ho' : openB (q.extract k q.size) = false := by simpa using ho
            clear ho
            have HE : Hid (NT q i k (k + tlen (q.extract k q.size))) := Or.inr ⟨hik, hlt, (by unfold tokB; rw [hbl', hd', ho']; rfl), rfl, HT.out⟩
            have hl := tlen_bd (q.extract k q.size) (by omega)
            have hl2 : k + tlen (q.extract k q.size) ≤ q.size := by omega
            clear hl
            go_wp2_with fail
            refine (blank_any _ _).mono ?_
            rintro e w' ⟨n0, rfl, hn0, hw⟩
            obtain rfl := hw.symm
            clear hw
            rw [← HB0.out] at hn0
            have hn : n0 < 0 := by rw [hbl'] at hn0; simpa using hn0
            clear hn0
            go_wp2_with fail
            refine (dash_any _ _).mono ?_
            rintro e w' ⟨rfl, hw⟩
            obtain rfl := hw.symm
            clear hw
            go_wp2_with fail
            refine (open_any _ _).mono ?_
            rintro e w' ⟨rfl, hw⟩
            obtain rfl := hw.symm
            clear hw
            go_wp2_with fail
            refine (len_any _ _ (by omega) (by omega)).mono ?_
            rintro e w' ⟨rfl, hw⟩
            obtain rfl := hw.symm
            clear hw
            go_wp2_with fail
            go_ret2
            exact ⟨ret_nt HE.out rfl (by omega), rfl⟩
    · have HE : Hid (NT q i q.size q.size) := Or.inl ⟨rfl, rfl, fun h => by
        rcases HT.out with g | g
        · omega
        · exact g⟩
      go_wp2
      go_ret2
      exact ⟨ret_nt HE.out rfl rfl, rfl⟩

set_option maxHeartbeats 400000 in
theorem zzNext_any (q : ByteArray) (i : Nat) (w : World) (hq : q.size ≤ 1048576) (hi : i ≤ 9223372036854775807) (hsh : w.ShapedOpen Try.prog) :
    Calls Try.prog 15 #[.string q, .int .i64 i] w fun en w' => NTPost q i en ∧ w' = w := by
  have HSH : Hid (w.ShapedOpen Try.prog) := hsh
  clear hsh
  go_enter Try.func15, Try.ntmps15
  go_wp2_with fail
  refine (next_any q i _ hq hi HSH.out).mono ?_
  rintro e w' ⟨⟨s, e, rfl, hn⟩, hw⟩
  obtain rfl := hw.symm
  clear hw
  have HN : Hid (NT q i s e) := hn
  clear hn
  go_wp2_with fail
  go_ret2
  exact ⟨ret_nt HN.out rfl rfl, rfl⟩

def lenB (n : Nat) : Bool := decide (n ≤ 1048576)
set_option maxHeartbeats 400000 in
theorem bytes14_any (s : ByteArray) (a1 : Int) (w : World) (hs : s.size ≤ maxLen) :
    Calls Try.prog 14 #[.string s, .int .i64 a1] w fun e w' => e = .returned (.bool (lenB s.size)) ∧ w' = w := by
  unfold maxLen at hs
  go_enter Try.func14, Try.ntmps14
  go_wp2
  all_goals
    go_ret
    exact ⟨ret_bool (by simp [lenB]; omega), rfl⟩

namespace fnNextTokenBoundsAndRestart
set_option maxHeartbeats 1000000 in
theorem walk (a0 : ByteArray) (a1 : Int) (w0 : a0.size ≤ maxLen) (w1 : (Lit.int .i64 a1).wf = true) (w : World) (hsh : w.ShapedOpen Try.prog) :
    Calls Try.prog 5 #[.string a0, .int .i64 a1] w fun e w' => e = .returned (.bool true) ∧ Grown w w' := by
  have HSH : Hid (w.ShapedOpen Try.prog) := hsh
  clear hsh
  by_cases hB : lenB a0.size = true
  · have hb : a0.size ≤ 1048576 := by simpa [lenB] using hB
    by_cases h3 : a1 < 0
    · go_enter Try.func5, Try.ntmps5
      go_wp2_with (go_at_call 14; refine (bytes14_any a0 a1 _ w0).mono ?_; rintro e w' ⟨rfl, hw⟩; obtain rfl := hw.symm; clear hw)
      go_ret
      exact ⟨rfl, Grown.refl _⟩
    · obtain ⟨i, rfl⟩ := Int.eq_ofNat_of_zero_le (show 0 ≤ a1 by omega)
      have hi : i ≤ 9223372036854775807 := by have := (bounds_i64 w1).2; omega
      go_enter Try.func5, Try.ntmps5
      go_wp2_with (go_at_call 14; refine (bytes14_any a0 _ _ w0).mono ?_; rintro e w' ⟨rfl, hw⟩; obtain rfl := hw.symm; clear hw)
      refine (zzNext_any a0 i _ hb hi HSH.out).mono ?_
      rintro e w' ⟨⟨s, e, rfl, hn⟩, hw⟩
      obtain rfl := hw.symm
      clear hw
      have HN : Hid (NT a0 i s e) := hn
      clear hn
      by_cases hp : a0.size ≤ i
      · obtain ⟨e1, e2⟩ := NT_past HN.out hp
        subst e1
        subst e2
        go_wp2_with fail
        go_ret
        exact ⟨ret_bool (by simp), Grown.refl _⟩
      · obtain ⟨o1, o2, o3, o4⟩ := NT_order HN.out (by omega)
        by_cases hse : s = e
        · have o5 := o4 hse
          subst hse
          subst o5
          go_wp2_with fail
          go_ret
          exact ⟨ret_bool (by simp), Grown.refl _⟩
        · have hlt : s < e := by omega
          have HNE : Hid (s ≠ e) := hse
          clear o4 hse
          go_wp2_with fail
          refine (zzNext_any a0 s _ hb (by omega) HSH.out).mono ?_
          rintro e' w' ⟨⟨s2, e2, rfl, hn2⟩, hw⟩
          obtain rfl := hw.symm
          clear hw
          obtain ⟨x1, x2⟩ := NT_again HN.out HNE.out hn2
          subst x1
          subst x2
          clear hn2
          go_wp2_with fail
          go_ret
          exact ⟨ret_bool (by simp), Grown.refl _⟩
  · have hB' : lenB a0.size = false := by simpa using hB
    clear hB
    go_enter Try.func5, Try.ntmps5
    go_wp2_with (go_at_call 14; refine (bytes14_any a0 a1 _ w0).mono ?_; rintro e w' ⟨rfl, hw⟩; obtain rfl := hw.symm; clear hw)
    go_ret
    exact ⟨rfl, Grown.refl _⟩
end fnNextTokenBoundsAndRestart
end Go.Proofs.Qxb6602321a
