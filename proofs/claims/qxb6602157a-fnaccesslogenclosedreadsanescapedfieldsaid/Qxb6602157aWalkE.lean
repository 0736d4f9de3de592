/-
  THE WALKS OF strings.IndexByte, after, enclosed, ZZenclosed, the scan.
-/
import Derived.Test.Qxb6602157aRows
import Derived.Test.Qxb6602157aEnc
import Derived.WalkKit
import Derived.WalkSpells
import Derived.WalkLawsBesides
namespace Go.Proofs.Qxb6602157a
open Go.RowKit
set_option linter.unusedVariables false
set_option linter.unusedSimpArgs false

theorem ret_int {k : IntKind} {a b : Int} (h : a = b) : Ending.returned (.int k a) = .returned (.int k b) := by rw [h]
theorem ret_bool {a b : Bool} (h : a = b) : Ending.returned (.bool a) = .returned (.bool b) := by rw [h]

set_option maxHeartbeats 400000 in
theorem slite_any (s : ByteArray) (c : Int) (w : World) :
    Calls Try.prog 30 #[.string s, .int .u8 c] w fun e w' => e = .returned (.int .i64 (Lib.indexByte s.data.toList c.toNat.toUInt8)) ∧ w' = w := by
  go_enter Try.func30, Try.ntmps30
  go_wp2
  rw [run_callFunc_extern Try.func31 (by kernel_rfl) (by kernel_rfl) (by kernel_rfl) (e := Extern.BytealgIndexByte.indexByte) (by kernel_rfl), Lib.run_indexByteString]
  simp only [Result.andThen]
  rw [Oper.upon_value]
  go_wp2
  go_ret
  exact ⟨rfl, rfl⟩

def IdxPost (t : ByteArray) (c : Int) (e : Ending) : Prop := ∃ n : Int, e = .returned (.int .i64 n) ∧ IdxP t c n
set_option maxHeartbeats 400000 in
theorem index_any (s : ByteArray) (c : Int) (w : World) (c0 : 0 ≤ c) (c1 : c ≤ 255) :
    Calls Try.prog 28 #[.string s, .int .u8 c] w fun e w' => IdxPost s c e ∧ w' = w := by
  have H : Hid (IdxP s c (Lib.indexByte s.data.toList c.toNat.toUInt8)) := idx_bt s c c0 c1
  go_enter Try.func28, Try.ntmps28
  go_wp2_with (go_at_call 30; refine (slite_any _ _ _).mono ?_; rintro e w' ⟨rfl, rfl⟩)
  go_ret
  exact ⟨⟨_, rfl, H.out⟩, rfl⟩

theorem ret_ib {a b : Int} {p q : Bool} (h : a = b) (g : p = q) : Ending.returned (.tuple #[.int .i64 a, .bool p]) = .returned (.tuple #[.int .i64 b, .bool q]) := by rw [h, g]
set_option maxHeartbeats 400000 in
theorem after_any (l : ByteArray) (k : Nat) (w : World) (hl : l.size ≤ 16777216) (hk : k ≤ l.size) :
    Calls Try.prog 29 #[.string l, .int .i64 k] w fun e w' => e = .returned (.tuple #[.int .i64 (nextI l k), .bool (aftB l k)]) ∧ w' = w := by
  by_cases h : k < l.size
  · have HB : Hid (bt l k = (l[k].toNat : Int)) := bt_in h
    by_cases h32 : ((l[k].toNat : Int) == 32) = true
    · have HA : Hid (aftB l k = true) := (by unfold aftB; rw [HB.out, h32]; simp : aftB l k = true)
      have hne : ((l[k].toNat : Int) != 32) = false := by simp [bne, h32]
      clear h32
      go_enter Try.func29, Try.ntmps29
      go_wp2
      go_ret2
      exact ⟨ret_ib (by unfold nextI; rw [HA.out]; simp) HA.out.symm, rfl⟩
    · have h32' : ((l[k].toNat : Int) == 32) = false := by simpa using h32
      have HA : Hid (aftB l k = false) := (by unfold aftB; rw [HB.out, h32']; simp [h] : aftB l k = false)
      have hne : ((l[k].toNat : Int) != 32) = true := by simp [bne, h32']
      clear h32 h32'
      go_enter Try.func29, Try.ntmps29
      go_wp2
      go_ret2
      exact ⟨ret_ib (by unfold nextI; rw [HA.out]; simp) HA.out.symm, rfl⟩
  · have HA : Hid (aftB l k = true) := (by unfold aftB; simp [h] : aftB l k = true)
    go_enter Try.func29, Try.ntmps29
    go_wp2
    go_ret2
    exact ⟨ret_ib (by unfold nextI; rw [HA.out]; simp) HA.out.symm, rfl⟩
theorem after_i (l : ByteArray) (k : Nat) (x : Int) (hx : x = (k : Int)) (w : World) (hl : l.size ≤ 16777216) (hk : k ≤ l.size) :
    Calls Try.prog 29 #[.string l, .int .i64 x] w fun e w' => e = .returned (.tuple #[.int .i64 (nextI l k), .bool (aftB l k)]) ∧ w' = w := by
  subst hx; exact after_any l k w hl hk

/-- What enclosed hands back: by the first hit. -/
def encV (l : ByteArray) (f : Nat) : Option Nat → Value
  | none => .tuple #[.string ⟨#[]⟩, .int .i64 f, .bool false]
  | some j => .tuple #[.string (l.extract (f + 1) j), .int .i64 (nextI l (j + 1)), .bool (aftB l (j + 1))]
def EncPost (l : ByteArray) (f : Nat) (o e : Int) (en : Ending) : Prop := ∃ r, en = .returned (encV l f r) ∧ EncR l f o e r

theorem ret_enc {l : ByteArray} {f j : Nat} {o e : Int} {t : ByteArray} {n : Int} {b : Bool} (h : EncR l f o e (some j)) (h1 : t = l.extract (f + 1) j) (h2 : n = (nextI l (j + 1) : Int)) (h3 : b = aftB l (j + 1)) :
    EncPost l f o e (.returned (.tuple #[.string t, .int .i64 n, .bool b])) := ⟨some j, by rw [h1, h2, h3]; rfl, h⟩
theorem ret_none {l : ByteArray} {f : Nat} {o e : Int} (h : EncR l f o e none) : EncPost l f o e (.returned (.tuple #[.string ⟨#[]⟩, .int .i64 f, .bool false])) := ⟨none, rfl, h⟩

/-- The index of e in l[k:], told of l. -/
theorem idx_from {l : ByteArray} {k : Nat} {e n : Int} (hk : k ≤ l.size) (h : IdxP (l.extract k l.size) e n) :
    (n = -1 ∧ ∀ x, k ≤ x → x < l.size → bt l x ≠ e) ∨ (∃ m : Nat, n = (m : Int) ∧ k + m < l.size ∧ bt l (k + m) = e ∧ ∀ x, k ≤ x → x < k + m → bt l x ≠ e) := by
  have hz : (l.extract k l.size).size = l.size - k := by rw [ByteArray.size_extract]; omega
  rcases h with ⟨h1, h2⟩ | ⟨m, h1, h2, h3, h4⟩
  · left
    refine ⟨h1, fun x a b => ?_⟩
    have := h2 (x - k) (by omega)
    rw [bt_extract l k l.size _ (Nat.le_refl _) (by omega), show k + (x - k) = x by omega] at this
    exact this
  · right
    refine ⟨m, h1, by omega, ?_, fun x a b => ?_⟩
    · rw [← bt_extract l k l.size m (Nat.le_refl _) (by omega)]; exact h3
    · have := h4 (x - k) (by omega)
      rw [bt_extract l k l.size _ (Nat.le_refl _) (by omega), show k + (x - k) = x by omega] at this
      exact this
theorem no_hit {l : ByteArray} {f x : Nat} {e : Int} (h : bt l x ≠ e) : hit l f e x = false := by
  unfold hit; simp [h]
theorem enc_none {l : ByteArray} {f k : Nat} {o e : Int} (h1 : ∀ x, f < x → x < k → hit l f e x = false) (h2 : ∀ x, k ≤ x → x < l.size → bt l x ≠ e) : EncR l f o e none := by
  right
  intro j hj
  by_cases a : j < k
  · exact h1 j hj a
  · by_cases b : j < l.size
    · exact no_hit (h2 j (by omega) b)
    · unfold hit; simp [b]
theorem no_hit_to {l : ByteArray} {f k m : Nat} {e : Int} (h1 : ∀ x, f < x → x < k → hit l f e x = false) (h2 : ∀ x, k ≤ x → x < k + m → bt l x ≠ e) : ∀ x, f < x → x < k + m → hit l f e x = false := by
  intro x a b
  by_cases c : x < k
  · exact h1 x a c
  · exact no_hit (h2 x (by omega) b)

theorem enc_some {l : ByteArray} {f j r : Nat} {o e : Int} (h : f < l.size) (ho : bt l f = o) (hj : f < j) (he : bt l j = e) (hn : ∀ x, f < x → x < j → hit l f e x = false) (hl : j < l.size) (hr : run l f j = r) (hp : r % 2 = 0) : EncR l f o e (some j) := by
  refine ⟨⟨h, ho⟩, hj, ?_, hn⟩
  unfold hit; simp [hl, he, hr, hp]
theorem no_hit_odd {l : ByteArray} {f j r : Nat} {e : Int} (hn : ∀ x, f < x → x < j → hit l f e x = false) (hr : run l f j = r) (hp : r % 2 ≠ 0) : ∀ x, f < x → x < j + 1 → hit l f e x = false := by
  intro x a b
  by_cases c : x < j
  · exact hn x a c
  · have : x = j := by omega
    subst this
    unfold hit; simp [hr]; omega

set_option maxHeartbeats 1000000 in
theorem enclosed_any (l : ByteArray) (f : Nat) (o e : Int) (w : World) (hl : l.size ≤ 16777216) (hf : f ≤ 9223372036854775807) (o0 : 0 ≤ o) (o1 : o ≤ 255) (e0 : 0 ≤ e) (e1 : e ≤ 255) :
    Calls Try.prog 27 #[.string l, .int .i64 f, .int .u8 o, .int .u8 e] w fun en w' => EncPost l f o e en ∧ w' = w := by
  by_cases h : f < l.size
  · have HB : Hid (bt l f = (l[f].toNat : Int)) := bt_in h
    by_cases ho : ((l[f].toNat : Int) == o) = true
    · have HO : Hid (bt l f = o) := (by rw [HB.out]; simpa using ho : bt l f = o)
      have hne : ((l[f].toNat : Int) != o) = false := by simp [bne, ho]
      clear ho
      go_enter Try.func27, Try.ntmps27
      go_wp2
      go_loop [11] (fun p => ∃ k : Nat, p = .int .i64 k ∧ f < k ∧ k ≤ l.size ∧ Hid (∀ x, f < x → x < k → hit l f e x = false)) (fun p => l.size - (intOf p).toNat)
      case atStart => exact ⟨f + 1, by go_num, by omega, by omega, fun x _ _ => by omega⟩
      case round =>
        obtain ⟨k, rfl, hfk, hkl, HH⟩ := hrel
        go_wp2_with fail
        refine (index_any (l.extract k l.size) e _ e0 e1).mono ?_
        rintro e' w' ⟨⟨n, rfl, hn⟩, hw⟩
        obtain rfl := hw.symm
        clear hw
        have hn' := idx_from hkl hn
        clear hn
        rcases hn' with ⟨hn1, hn2⟩ | ⟨m, hn1, hm1, hm2, hm3⟩
        · have HO : Hid (EncR l f o e none) := enc_none HH.out hn2
          subst hn1
          clear hn2
          go_wp2_with fail
          go_ret3
          exact ⟨ret_none HO.out, rfl⟩
        · subst hn1
          have HM : Hid (bt l (k + m) = e ∧ ∀ x, f < x → x < k + m → hit l f e x = false) := ⟨hm2, no_hit_to HH.out hm3⟩
          clear hm2 hm3
          go_wp2_with fail
          go_loop [13] (fun p => ∃ r : Nat, p = .int .i64 r ∧ f + r < k + m ∧ Hid (∀ x, k + m - r ≤ x → x < k + m → bt l x = 92)) (fun p => k + m - (intOf p).toNat)
          case atStart => exact ⟨0, rfl, by omega, fun x _ _ => by omega⟩
          case round =>
            obtain ⟨r, rfl, hr, HR⟩ := hrel
            obtain ⟨y, hy⟩ : ∃ y : Nat, k + m - 1 - r = y := ⟨_, rfl⟩
            have hy' : (k : Int) + m - 1 - r = y := by omega
            have hym : y < l.size := by omega
            have HY : Hid (bt l y = (l[y].toNat : Int)) := bt_in hym
            by_cases hfy : f < y
            · by_cases h92 : ((l[y].toNat : Int) == 92) = true
              · go_wp2_with fail
                go_round
                case rel =>
                  refine ⟨r + 1, by go_num, by omega, fun x a b => ?_⟩
                  by_cases hx : x = y
                  · subst hx; rw [HY.out]; simpa using h92
                  · exact HR.out x (by omega) b
                case measure => simp [intOf]; omega
              · have h92' : ((l[y].toNat : Int) == 92) = false := by simpa using h92
                clear h92
                have HRUN : Hid (run l f (k + m) = r) := run_count r (k + m) hr HR.out (Or.inr (by rw [hy, HY.out]; simpa using h92'))
                by_cases hpar : ((r : Int) % 2 == 0) = true
                · have HE : Hid (EncR l f o e (some (k + m))) := enc_some h HO.out (by omega) HM.out.1 HM.out.2 hm1 HRUN.out (by simp at hpar; omega)
                  go_wp2_with fail
                  refine (after_i l (k + m + 1) _ (by omega) _ hl (by omega)).mono ?_
                  rintro e' w' ⟨rfl, hw⟩
                  obtain rfl := hw.symm
                  clear hw
                  go_wp2_with fail
                  go_ret3
                  exact ⟨ret_enc HE.out rfl rfl rfl, rfl⟩
                · have hpar' : ((r : Int) % 2 == 0) = false := by simpa using hpar
                  clear hpar
                  have HE : Hid (∀ x, f < x → x < k + m + 1 → hit l f e x = false) := no_hit_odd HM.out.2 HRUN.out (by simp at hpar'; omega)
                  go_wp2_with fail
                  go_round
                  case rel => exact ⟨_, _, _, _, ⟨k + m + 1, by go_num, by omega, by omega, HE.out⟩, rfl, rfl, rfl, rfl⟩
                  case measure => simp [intOf]; omega
            · have HRUN : Hid (run l f (k + m) = r) := run_count r (k + m) hr HR.out (Or.inl (by omega))
              by_cases hpar : ((r : Int) % 2 == 0) = true
              · have HE : Hid (EncR l f o e (some (k + m))) := enc_some h HO.out (by omega) HM.out.1 HM.out.2 hm1 HRUN.out (by simp at hpar; omega)
                go_wp2_with fail
                refine (after_i l (k + m + 1) _ (by omega) _ hl (by omega)).mono ?_
                rintro e' w' ⟨rfl, hw⟩
                obtain rfl := hw.symm
                clear hw
                go_wp2_with fail
                go_ret3
                exact ⟨ret_enc HE.out rfl rfl rfl, rfl⟩
              · have hpar' : ((r : Int) % 2 == 0) = false := by simpa using hpar
                clear hpar
                have HE : Hid (∀ x, f < x → x < k + m + 1 → hit l f e x = false) := no_hit_odd HM.out.2 HRUN.out (by simp at hpar'; omega)
                go_wp2_with fail
                go_round
                case rel => exact ⟨_, _, _, _, ⟨k + m + 1, by go_num, by omega, by omega, HE.out⟩, rfl, rfl, rfl, rfl⟩
                case measure => simp [intOf]; omega
    · have HO : Hid (EncR l f o e none) := (Or.inl (by rw [HB.out]; simp at ho; exact fun g => ho g.2) : EncR l f o e none)
      have hne : ((l[f].toNat : Int) != o) = true := by simp at ho; simp [ho]
      clear ho
      go_enter Try.func27, Try.ntmps27
      go_wp2
      go_ret3
      exact ⟨ret_none HO.out, rfl⟩
  · have HO : Hid (EncR l f o e none) := (Or.inl (fun g => h g.1) : EncR l f o e none)
    go_enter Try.func27, Try.ntmps27
    go_wp2
    go_ret3
    exact ⟨ret_none HO.out, rfl⟩
end Go.Proofs.Qxb6602157a
