/-
  THE PLAIN LAW OF blockEnd: no Go in sight. 'BE D t e': with the bytes D, the block that must reach t ends at e.
-/
import Derived.Lib.BytesEntry
namespace Go.Proofs.Qxb6602932a

def BE (D : List Int) (t e : Nat) : Prop :=
  (D.length ≤ t ∧ e = D.length) ∨
  (t < D.length ∧ t < e ∧ e ≤ D.length ∧ (e < D.length → D.getD (e - 1) 0 = 10) ∧ ∀ k, t ≤ k → k < e - 1 → D.getD k 0 ≠ 10)

def IdxL (xs : List Int) (c n : Int) : Prop :=
  (n = -1 ∧ ∀ k, k < xs.length → xs.getD k 0 ≠ c) ∨ (∃ m : Nat, n = (m : Int) ∧ m < xs.length ∧ xs.getD m 0 = c ∧ ∀ k, k < m → xs.getD k 0 ≠ c)

theorem byte_eq {x c : Int} (h0 : 0 ≤ x) (h1 : x ≤ 255) (c0 : 0 ≤ c) (c1 : c ≤ 255) : UInt8.ofNat x.toNat = c.toNat.toUInt8 ↔ x = c := by
  have a : (UInt8.ofNat x.toNat).toNat = x.toNat := by rw [UInt8.toNat_ofNat']; omega
  have b : c.toNat.toUInt8.toNat = c.toNat := by rw [Nat.toUInt8_eq, UInt8.toNat_ofNat']; omega
  constructor
  · intro h
    have := congrArg UInt8.toNat h
    rw [a, b] at this; omega
  · intro h; subst h
    rfl

theorem idx_list (c : Int) (c0 : 0 ≤ c) (c1 : c ≤ 255) : ∀ xs : List Int, (∀ x ∈ xs, 0 ≤ x ∧ x ≤ 255) → IdxL xs c (Lib.indexByte (Lib.bytesOf xs) c.toNat.toUInt8)
  | [], _ => Or.inl ⟨rfl, fun k h => absurd h (Nat.not_lt_zero k)⟩
  | x :: xs, hx => by
    have hb := hx x (List.mem_cons_self ..)
    have ih := idx_list c c0 c1 xs (fun y hy => hx y (List.mem_cons_of_mem _ hy))
    show IdxL (x :: xs) c (Lib.indexByte (UInt8.ofNat x.toNat :: Lib.bytesOf xs) c.toNat.toUInt8)
    unfold Lib.indexByte
    by_cases h : x = c
    · have e : (UInt8.ofNat x.toNat == c.toNat.toUInt8) = true := by
        rw [beq_iff_eq]; exact (byte_eq hb.1 hb.2 c0 c1).2 h
      rw [e]
      right
      exact ⟨0, rfl, by simp, by simpa using h, fun k hk => absurd hk (Nat.not_lt_zero k)⟩
    · have e : (UInt8.ofNat x.toNat == c.toNat.toUInt8) = false := by
        rw [beq_eq_false_iff_ne]; exact fun g => h ((byte_eq hb.1 hb.2 c0 c1).1 g)
      rw [e]
      rcases ih with ⟨h1, h2⟩ | ⟨m, h1, h2, h3, h4⟩
      · left
        rw [h1]
        refine ⟨by simp, fun k hk => ?_⟩
        cases k with
        | zero => simpa using h
        | succ k => simpa using h2 k (by simpa using hk)
      · right
        rw [h1]
        refine ⟨m + 1, ?_, by simpa using h2, by simpa using h3, ?_⟩
        · have : ((m : Int) == -1) = false := by simp
          rw [this]; simp
        · intro k hk
          cases k with
          | zero => simpa using h
          | succ k => simpa using h4 k (by omega)

theorem getD_drop (D : List Int) (t k : Nat) : (D.drop t).getD k 0 = D.getD (t + k) 0 := by
  simp [List.getD, List.getElem?_drop]

/-- The two ways of blockEnd behind the search. -/
theorem BE_none {D : List Int} {t : Nat} (ht : t < D.length) (h : ∀ k, k < (D.drop t).length → (D.drop t).getD k 0 ≠ 10) : BE D t D.length := by
  right
  refine ⟨ht, ht, Nat.le_refl _, fun g => by omega, fun k h1 h2 => ?_⟩
  have := h (k - t) (by rw [List.length_drop]; omega)
  rw [getD_drop, show t + (k - t) = k by omega] at this
  exact this
theorem BE_some {D : List Int} {t m : Nat} (ht : t < D.length) (h1 : m < (D.drop t).length) (h2 : (D.drop t).getD m 0 = 10) (h3 : ∀ k, k < m → (D.drop t).getD k 0 ≠ 10) : BE D t (t + m + 1) := by
  right
  rw [List.length_drop] at h1
  refine ⟨ht, by omega, by omega, fun _ => ?_, fun k a b => ?_⟩
  · rw [getD_drop] at h2; rw [show t + m + 1 - 1 = t + m by omega]; exact h2
  · have := h3 (k - t) (by omega)
    rw [getD_drop, show t + (k - t) = k by omega] at this
    exact this
end Go.Proofs.Qxb6602932a
