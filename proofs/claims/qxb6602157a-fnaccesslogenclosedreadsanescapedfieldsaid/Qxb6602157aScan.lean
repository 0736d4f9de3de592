/-
  THE WALKS OF ZZenclosed, the scan, the bound on the length, FnAccesslogEnclosedMatchesScan.
-/
import Derived.Test.Qxb6602157aWalkE
import Derived.ProofKit
import Derived.RowKit3
import Derived.OpenShut
namespace Go.Proofs.Qxb6602157a
open Go.RowKit
set_option linter.unusedVariables false
set_option linter.unusedSimpArgs false

set_option maxHeartbeats 400000 in
theorem zzEnc_any (l : ByteArray) (f : Nat) (o e : Int) (w : World) (hl : l.size ≤ 16777216) (hf : f ≤ 9223372036854775807) (o0 : 0 ≤ o) (o1 : o ≤ 255) (e0 : 0 ≤ e) (e1 : e ≤ 255) :
    Calls Try.prog 19 #[.string l, .int .i64 f, .int .u8 o, .int .u8 e] w fun en w' => EncPost l f o e en ∧ w' = w := by
  go_enter Try.func19, Try.ntmps19
  go_wp2_with fail
  refine (enclosed_any l f o e _ hl hf o0 o1 e0 e1).mono ?_
  rintro e' w' ⟨⟨r, rfl, hr⟩, hw⟩
  obtain rfl := hw.symm
  clear hw
  have HR : Hid (EncR l f o e r) := hr
  clear hr
  cases r with
  | none =>
    unfold encV
    go_wp2_with fail
    go_ret3
    exact ⟨ret_none HR.out, rfl⟩
  | some j =>
    unfold encV
    go_wp2_with fail
    go_ret3
    exact ⟨ret_enc HR.out rfl rfl rfl, rfl⟩

theorem par_bs {l : ByteArray} {f k : Nat} (h : f < k) (hb : bt l k = 92) (h2 : (run l f k % 2 == 1) = false) : (run l f (k + 1) % 2 == 1) = true := by
  rw [run_bs h hb]; simp at h2 ⊢; omega
theorem par_bs2 {l : ByteArray} {f k : Nat} (h2 : (run l f k % 2 == 1) = true) : (run l f (k + 1) % 2 == 1) = false := by
  simp at h2 ⊢
  unfold run
  split <;> omega
theorem par_no {l : ByteArray} {f k : Nat} (hb : bt l k ≠ 92) : (run l f (k + 1) % 2 == 1) = false := by
  rw [run_no hb]; rfl
theorem val_b {a b : Bool} (h : a = b) : Value.bool a = Value.bool b := by rw [h]

set_option maxHeartbeats 1000000 in
theorem scan_any (l : ByteArray) (f : Nat) (o e : Int) (w : World) (hl : l.size ≤ 16777216) (hf : f ≤ 9223372036854775807) (o0 : 0 ≤ o) (o1 : o ≤ 255) (e0 : 0 ≤ e) (e1 : e ≤ 255) :
    Calls Try.prog 20 #[.string l, .int .i64 f, .int .u8 o, .int .u8 e] w fun en w' => EncPost l f o e en ∧ w' = w := by
  by_cases h : f < l.size
  · have HB : Hid (bt l f = (l[f].toNat : Int)) := bt_in h
    by_cases ho : ((l[f].toNat : Int) == o) = true
    · have HO : Hid (bt l f = o) := (by rw [HB.out]; simpa using ho : bt l f = o)
      have hne : ((l[f].toNat : Int) != o) = false := by simp [bne, ho]
      clear ho
      go_enter Try.func20, Try.ntmps20
      go_wp2
      go_loop [11, 12] (fun q p => ∃ k : Nat, p = .int .i64 k ∧ q = .bool (run l f k % 2 == 1) ∧ f < k ∧ k ≤ l.size ∧ Hid (∀ x, f < x → x < k → hit l f e x = false)) (fun _ p => l.size - (intOf p).toNat)
      case atStart => exact ⟨f + 1, by go_num, by rw [run_first]; rfl, by omega, by omega, fun x _ _ => by omega⟩
      case round =>
        obtain ⟨k, rfl, rfl, hfk, hkl, HH⟩ := hrel
        by_cases hlt : k < l.size
        · have HK : Hid (bt l k = (l[k].toNat : Int)) := bt_in hlt
          by_cases hesc : (run l f k % 2 == 1) = true
          · have HE : Hid (∀ x, f < x → x < k + 1 → hit l f e x = false) := no_hit_odd HH.out rfl (by simp at hesc; omega)
            have HP : Hid ((run l f (k + 1) % 2 == 1) = false) := par_bs2 hesc
            go_wp2_with fail
            go_round
            case rel => exact ⟨k + 1, by go_num, val_b HP.out.symm, by omega, by omega, HE.out⟩
            case measure => simp [intOf]; omega
          · have hesc' : (run l f k % 2 == 1) = false := by simpa using hesc
            clear hesc
            by_cases he : ((l[k].toNat : Int) == e) = true
            · have HE : Hid (EncR l f o e (some k)) := enc_some h HO.out hfk (by rw [HK.out]; simpa using he) HH.out hlt rfl (by simp at hesc'; omega)
              by_cases hlast : k + 1 < l.size
              · have HK1 : Hid (bt l (k + 1) = (l[k + 1].toNat : Int)) := bt_in hlast
                have hne1 : ((k : Int) + 1 == l.size) = false := by simp; omega
                by_cases h32 : ((l[k + 1].toNat : Int) == 32) = true
                · have HA : Hid (aftB l (k + 1) = true) := (by unfold aftB; rw [HK1.out, h32]; simp : aftB l (k + 1) = true)
                  go_wp2_with fail
                  go_ret3
                  exact ⟨ret_enc HE.out rfl (by unfold nextI; rw [HA.out]; simp; omega) HA.out.symm, rfl⟩
                · have h32' : ((l[k + 1].toNat : Int) == 32) = false := by simpa using h32
                  clear h32
                  have HA : Hid (aftB l (k + 1) = false) := (by unfold aftB; rw [HK1.out, h32']; simp [hlast] : aftB l (k + 1) = false)
                  go_wp2_with fail
                  go_ret3
                  exact ⟨ret_enc HE.out rfl (by unfold nextI; rw [HA.out]; simp) HA.out.symm, rfl⟩
              · have HA : Hid (aftB l (k + 1) = true) := (by unfold aftB; simp [hlast] : aftB l (k + 1) = true)
                have hne1 : ((k : Int) + 1 == l.size) = true := by simp; omega
                go_wp2_with fail
                go_ret3
                exact ⟨ret_enc HE.out rfl (by unfold nextI; rw [HA.out]; simp; omega) HA.out.symm, rfl⟩
            · have he' : ((l[k].toNat : Int) == e) = false := by simpa using he
              clear he
              have HE : Hid (∀ x, f < x → x < k + 1 → hit l f e x = false) := no_hit_to HH.out (fun x a b => by
                have : x = k := by omega
                subst this; rw [HK.out]; simpa using he')
              by_cases h92 : ((l[k].toNat : Int) == 92) = true
              · have HP : Hid ((run l f (k + 1) % 2 == 1) = true) := par_bs hfk (by rw [HK.out]; simpa using h92) hesc'
                go_wp2_with fail
                go_round
                case rel => exact ⟨k + 1, by go_num, val_b HP.out.symm, by omega, by omega, HE.out⟩
                case measure => simp [intOf]; omega
              · have h92' : ((l[k].toNat : Int) == 92) = false := by simpa using h92
                clear h92
                have HP : Hid ((run l f (k + 1) % 2 == 1) = false) := par_no (by rw [HK.out]; simpa using h92')
                go_wp2_with fail
                go_round
                case rel => exact ⟨k + 1, by go_num, val_b (hesc'.trans HP.out.symm), by omega, by omega, HE.out⟩
                case measure => simp [intOf]; omega
        · have HN : Hid (EncR l f o e none) := enc_none HH.out (fun x a b => by omega)
          go_wp2_with fail
          go_ret3
          exact ⟨ret_none HN.out, rfl⟩
    · have HO : Hid (EncR l f o e none) := (Or.inl (by rw [HB.out]; simp at ho; exact fun g => ho g.2) : EncR l f o e none)
      have hne : ((l[f].toNat : Int) != o) = true := by simp at ho; simp [ho]
      clear ho
      go_enter Try.func20, Try.ntmps20
      go_wp2
      go_ret3
      exact ⟨ret_none HO.out, rfl⟩
  · have HO : Hid (EncR l f o e none) := (Or.inl (fun g => h g.1) : EncR l f o e none)
    go_enter Try.func20, Try.ntmps20
    go_wp2
    go_ret3
    exact ⟨ret_none HO.out, rfl⟩

def lenB (n : Nat) : Bool := decide (n ≤ 1048576)
set_option maxHeartbeats 400000 in
theorem bytes18_any (s : ByteArray) (a1 a2 a3 : Int) (w : World) (hs : s.size ≤ maxLen) :
    Calls Try.prog 18 #[.string s, .int .i64 a1, .int .u8 a2, .int .u8 a3] w fun e w' => e = .returned (.bool (lenB s.size)) ∧ w' = w := by
  unfold maxLen at hs
  go_enter Try.func18, Try.ntmps18
  go_wp2
  all_goals
    go_ret
    exact ⟨ret_bool (by simp [lenB]; omega), rfl⟩

namespace fnAccesslogEnclosedMatchesScan
set_option maxHeartbeats 1000000 in
theorem walk (a0 : ByteArray) (a1 : Int) (a2 : Int) (a3 : Int) (w0 : a0.size ≤ maxLen) (w1 : (Lit.int .i64 a1).wf = true) (w2 : (Lit.int .u8 a2).wf = true) (w3 : (Lit.int .u8 a3).wf = true) (w : World) :
    Calls Try.prog 7 #[.string a0, .int .i64 a1, .int .u8 a2, .int .u8 a3] w fun e w' => e = .returned (.bool true) ∧ Grown w w' := by
  have b2 := bounds_u8 w2
  have b3 := bounds_u8 w3
  by_cases hB : lenB a0.size = true
  · have hb : a0.size ≤ 1048576 := by simpa [lenB] using hB
    by_cases h3 : a1 < 0
    · go_enter Try.func7, Try.ntmps7
      go_wp2_with (go_at_call 18; refine (bytes18_any a0 a1 a2 a3 _ w0).mono ?_; rintro e w' ⟨rfl, rfl⟩)
      go_ret
      exact ⟨rfl, Grown.refl _⟩
    · obtain ⟨i, rfl⟩ := Int.eq_ofNat_of_zero_le (show 0 ≤ a1 by omega)
      have hi : i ≤ 9223372036854775807 := by have := (bounds_i64 w1).2; omega
      go_enter Try.func7, Try.ntmps7
      go_wp2_with (go_at_call 18; refine (bytes18_any a0 _ a2 a3 _ w0).mono ?_; rintro e w' ⟨rfl, hw⟩; obtain rfl := hw.symm; clear hw)
      refine (zzEnc_any a0 i a2 a3 _ (by omega) hi b2.1 b2.2 b3.1 b3.2).mono ?_
      rintro e w' ⟨⟨r, rfl, hr⟩, hw⟩
      obtain rfl := hw.symm
      clear hw
      have HR : Hid (EncR a0 i a2 a3 r) := hr
      clear hr
      cases r with
      | none =>
        unfold encV
        go_wp2_with fail
        refine (scan_any a0 i a2 a3 _ (by omega) hi b2.1 b2.2 b3.1 b3.2).mono ?_
        rintro e w' ⟨⟨r2, rfl, hr2⟩, hw⟩
        obtain rfl := hw.symm
        clear hw
        have he := EncR_uniq HR.out hr2
        subst he
        unfold encV
        go_wp2_with fail
        go_ret
        exact ⟨ret_bool (by simp), Grown.refl _⟩
      | some j =>
        unfold encV
        go_wp2_with fail
        refine (scan_any a0 i a2 a3 _ (by omega) hi b2.1 b2.2 b3.1 b3.2).mono ?_
        rintro e w' ⟨⟨r2, rfl, hr2⟩, hw⟩
        obtain rfl := hw.symm
        clear hw
        have he := EncR_uniq HR.out hr2
        subst he
        unfold encV
        go_wp2_with fail
        go_ret
        exact ⟨ret_bool (by simp), Grown.refl _⟩
  · have hB' : lenB a0.size = false := by simpa using hB
    clear hB
    go_enter Try.func7, Try.ntmps7
    go_wp2_with (go_at_call 18; refine (bytes18_any a0 a1 a2 a3 _ w0).mono ?_; rintro e w' ⟨rfl, rfl⟩)
    go_ret
    exact ⟨rfl, Grown.refl _⟩
end fnAccesslogEnclosedMatchesScan
end Go.Proofs.Qxb6602157a
