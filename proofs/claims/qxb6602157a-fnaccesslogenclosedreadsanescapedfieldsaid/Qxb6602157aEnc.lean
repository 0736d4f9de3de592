/-
  THE PLAIN LAW OF enclosed: no Go in sight. 'bt l k': the byte of l at k, 0 past its end. 'run l f j': how many backslashes stand right before j, none of them at or before f. 'hit l f e j': the byte e stands at j and an even run of backslashes before it. 'EncR': which j is the first hit behind f.
-/
import Derived.Lib.Bytealg
namespace Go.Proofs.Qxb6602157a

def bt (s : ByteArray) (k : Nat) : Int := if h : k < s.size then ((s[k]).toNat : Int) else 0
theorem bt_in {s : ByteArray} {k : Nat} (h : k < s.size) : bt s k = (s[k].toNat : Int) := by
  unfold bt; rw [dif_pos h]
theorem bt_out {s : ByteArray} {k : Nat} (h : s.size ≤ k) : bt s k = 0 := by
  unfold bt; rw [dif_neg (by omega)]
theorem bt_lo (s : ByteArray) (k : Nat) : 0 ≤ bt s k ∧ bt s k ≤ 255 := by
  unfold bt
  split
  · have := (s[k]).toNat_lt; omega
  · omega
theorem bt_extract (s : ByteArray) (i b k : Nat) (hb : b ≤ s.size) (hk : i + k < b) : bt (s.extract i b) k = bt s (i + k) := by
  rw [bt_in (s := s) (by omega), bt_in (by rw [ByteArray.size_extract]; omega)]
  rw [ByteArray.getElem_extract]

def run (l : ByteArray) (f : Nat) : Nat → Nat
  | 0 => 0
  | j + 1 => if f < j ∧ bt l j = 92 then run l f j + 1 else 0
def hit (l : ByteArray) (f : Nat) (e : Int) (j : Nat) : Bool := decide (j < l.size) && (bt l j == e && run l f j % 2 == 0)

theorem run_bs {l : ByteArray} {f j : Nat} (h1 : f < j) (h2 : bt l j = 92) : run l f (j + 1) = run l f j + 1 := by
  rw [run, if_pos ⟨h1, h2⟩]
theorem run_no {l : ByteArray} {f j : Nat} (h : bt l j ≠ 92) : run l f (j + 1) = 0 := by
  rw [run, if_neg (by intro g; exact h g.2)]
theorem run_first (l : ByteArray) (f : Nat) : run l f (f + 1) = 0 := by
  rw [run, if_neg (by omega)]
/-- The run that the loop counts: r backslashes behind f right before j, and none ahead of them. -/
theorem run_count {l : ByteArray} {f : Nat} : ∀ (r j : Nat), f + r < j → (∀ x, j - r ≤ x → x < j → bt l x = 92) → (f + r + 1 = j ∨ bt l (j - 1 - r) ≠ 92) → run l f j = r
  | 0, j, h1, _, h3 => by
    obtain ⟨j, rfl⟩ : ∃ x, j = x + 1 := ⟨j - 1, by omega⟩
    rcases h3 with h3 | h3
    · have : j = f := by omega
      subst this; exact run_first l j
    · exact run_no (by simpa using h3)
  | r + 1, j, h1, h2, h3 => by
    obtain ⟨j, rfl⟩ : ∃ x, j = x + 1 := ⟨j - 1, by omega⟩
    rw [run_bs (by omega) (h2 j (by omega) (by omega))]
    rw [run_count r j (by omega) (fun x a b => h2 x (by omega) (by omega)) (by
      rcases h3 with h3 | h3
      · left; omega
      · right; rw [show j - 1 - r = j + 1 - 1 - (r + 1) by omega]; exact h3)]

/-- What follows the closing byte at j: a space, or the line's end. -/
def aftB (l : ByteArray) (k : Nat) : Bool := !(decide (k < l.size) && !(bt l k == 32))
def nextI (l : ByteArray) (k : Nat) : Nat := if aftB l k = true then k + 1 else k

def EncR (l : ByteArray) (f : Nat) (o e : Int) (r : Option Nat) : Prop :=
  match r with
  | none => ¬ (f < l.size ∧ bt l f = o) ∨ ∀ j, f < j → hit l f e j = false
  | some j => (f < l.size ∧ bt l f = o) ∧ f < j ∧ hit l f e j = true ∧ ∀ x, f < x → x < j → hit l f e x = false
theorem EncR_uniq {l : ByteArray} {f : Nat} {o e : Int} {r1 r2 : Option Nat} (h1 : EncR l f o e r1) (h2 : EncR l f o e r2) : r1 = r2 := by
  cases r1 with
  | none =>
    cases r2 with
    | none => rfl
    | some j =>
      obtain ⟨a, b, c, d⟩ := h2
      rcases h1 with h1 | h1
      · exact absurd a h1
      · rw [h1 j b] at c; cases c
  | some i =>
    obtain ⟨a, b, c, d⟩ := h1
    cases r2 with
    | none =>
      rcases h2 with h2 | h2
      · exact absurd a h2
      · rw [h2 i b] at c; cases c
    | some j =>
      obtain ⟨a', b', c', d'⟩ := h2
      rcases Nat.lt_trichotomy i j with h | h | h
      · rw [d' i b h] at c; cases c
      · rw [h]
      · rw [d j b' h] at c'; cases c'
theorem hit_lt {l : ByteArray} {f j : Nat} {e : Int} (h : hit l f e j = true) : j < l.size := by
  unfold hit at h; simp at h; exact h.1

/-! ### The index of a byte -/
def IdxP (t : ByteArray) (c n : Int) : Prop :=
  (n = -1 ∧ ∀ k, k < t.size → bt t k ≠ c) ∨ (∃ m : Nat, n = (m : Int) ∧ m < t.size ∧ bt t m = c ∧ ∀ k, k < m → bt t k ≠ c)
theorem idx_list (c : UInt8) : ∀ l : List UInt8, (Lib.indexByte l c = -1 ∧ ∀ k (h : k < l.length), l[k] ≠ c) ∨
    (∃ m : Nat, Lib.indexByte l c = (m : Int) ∧ ∃ h : m < l.length, l[m] = c ∧ ∀ k (hk : k < m), l[k] ≠ c)
  | [] => Or.inl ⟨rfl, fun k h => absurd h (Nat.not_lt_zero k)⟩
  | b :: l => by
    unfold Lib.indexByte
    by_cases hb : b = c
    · right
      refine ⟨0, by simp [hb], by simp, by simpa using hb, fun k hk => absurd hk (Nat.not_lt_zero k)⟩
    · have hb' : (b == c) = false := by simpa using hb
      rcases idx_list c l with ⟨h1, h2⟩ | ⟨m, h1, h2, h3, h4⟩
      · left
        rw [hb', h1]
        refine ⟨by simp, ?_⟩
        intro k hk
        cases k with
        | zero => simpa using hb
        | succ k => simpa using h2 k (by simpa using hk)
      · right
        rw [hb', h1]
        refine ⟨m + 1, ?_, by simp; omega, by simpa using h3, ?_⟩
        · have : ((m : Int) == -1) = false := by simp
          rw [this]; simp
        · intro k hk
          cases k with
          | zero => simpa using hb
          | succ k => simpa using h4 k (by omega)
theorem bt_eq {t : ByteArray} {k : Nat} (h : k < t.size) {c : Int} (c0 : 0 ≤ c) (c1 : c ≤ 255) : bt t k = c ↔ t.data.toList[k]'(by simpa using h) = c.toNat.toUInt8 := by
  rw [bt_in h]
  have e : t.data.toList[k]'(by simpa using h) = t[k] := by simp; rfl
  rw [e]
  have hc : c.toNat.toUInt8.toNat = c.toNat := by
    rw [Nat.toUInt8_eq, UInt8.toNat_ofNat']; omega
  constructor
  · intro g
    apply UInt8.toNat_inj.1
    rw [hc]; omega
  · intro g
    rw [g, hc]; omega
theorem idx_bt (t : ByteArray) (c : Int) (c0 : 0 ≤ c) (c1 : c ≤ 255) : IdxP t c (Lib.indexByte t.data.toList c.toNat.toUInt8) := by
  have hz : t.data.toList.length = t.size := by simp
  rcases idx_list c.toNat.toUInt8 t.data.toList with ⟨h1, h2⟩ | ⟨m, h1, h2, h3, h4⟩
  · left
    refine ⟨h1, fun k hk => ?_⟩
    rw [ne_eq, bt_eq hk c0 c1]
    exact h2 k (by omega)
  · right
    refine ⟨m, h1, by omega, (bt_eq (by omega) c0 c1).2 h3, fun k hk => ?_⟩
    rw [ne_eq, bt_eq (by omega) c0 c1]
    exact h4 k hk
end Go.Proofs.Qxb6602157a
