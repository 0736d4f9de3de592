/-
  THE PLAIN LAW OF nextToken: no Go in sight. 'tlen t': the length of the token that t begins with. 'tokB t': t begins with a token (no blank, no comment). 'NT q i s e': what nextToken answers at i.
-/
import Derived.Lib.Index
namespace Go.Proofs.Qxb6602321a

def bt (s : ByteArray) (k : Nat) : Int := if h : k < s.size then ((s[k]).toNat : Int) else 0
theorem bt_in {s : ByteArray} {k : Nat} (h : k < s.size) : bt s k = (s[k].toNat : Int) := by
  unfold bt; rw [dif_pos h]
theorem bt_lo (s : ByteArray) (k : Nat) : 0 ≤ bt s k ∧ bt s k ≤ 255 := by
  unfold bt
  split
  · have := (s[k]).toNat_lt; omega
  · omega

def quoteB (c : Int) : Bool := c == 39 || (c == 34 || c == 96)
def wordB (c : Int) : Bool := decide ((97 ≤ c ∧ c ≤ 122) ∨ (65 ≤ c ∧ c ≤ 90) ∨ (48 ≤ c ∧ c ≤ 57) ∨ c = 95)

def qscan (t : ByteArray) (c : Int) : Nat → Nat → Nat
  | 0, _ => t.size
  | f + 1, j => if j < t.size then (if bt t j = 92 then qscan t c f (j + 2) else if bt t j = c then j + 1 else qscan t c f (j + 1)) else t.size
def wscan (t : ByteArray) : Nat → Nat → Nat
  | 0, j => j
  | f + 1, j => if j < t.size ∧ wordB (bt t j) = true then wscan t f (j + 1) else j

theorem qscan_out {t : ByteArray} {c : Int} {f j : Nat} (h : t.size ≤ j) : qscan t c f j = t.size := by
  cases f with
  | zero => rfl
  | succ f => rw [qscan, if_neg (by omega)]
theorem qscan_bd (t : ByteArray) (c : Int) (h0 : 1 ≤ t.size) : ∀ f j, 1 ≤ qscan t c f j ∧ qscan t c f j ≤ t.size
  | 0, j => ⟨h0, Nat.le_refl _⟩
  | f + 1, j => by
    rw [qscan]
    split
    · split
      · exact qscan_bd t c h0 f _
      · split
        · omega
        · exact qscan_bd t c h0 f _
    · omega
theorem wscan_bd (t : ByteArray) : ∀ f j, 1 ≤ j → j ≤ t.size → 1 ≤ wscan t f j ∧ wscan t f j ≤ t.size
  | 0, j, h1, h2 => ⟨h1, h2⟩
  | f + 1, j, h1, h2 => by
    rw [wscan]
    split
    · exact wscan_bd t f (j + 1) (by omega) (by omega)
    · omega
theorem wscan_stop {t : ByteArray} {f j : Nat} (h : ¬ (j < t.size ∧ wordB (bt t j) = true)) : wscan t f j = j := by
  cases f with
  | zero => rfl
  | succ f => rw [wscan, if_neg h]

def tlen (t : ByteArray) : Nat :=
  if quoteB (bt t 0) = true then qscan t (bt t 0) t.size 1 else if wordB (bt t 0) = true then wscan t t.size 1 else 1
theorem tlen_bd (t : ByteArray) (h0 : 1 ≤ t.size) : 1 ≤ tlen t ∧ tlen t ≤ t.size := by
  unfold tlen
  split
  · exact qscan_bd t _ h0 _ _
  · split
    · exact wscan_bd t _ 1 (by omega) h0
    · omega

def blankB (c : Int) : Bool := decide (0 ≤ Lib.indexByte [32, 9, 10, 11, 12, 13] c.toNat.toUInt8)
def dashB (t : ByteArray) : Bool := Lib.hasPrefix t.data.toList [45, 45]
def openB (t : ByteArray) : Bool := Lib.hasPrefix t.data.toList [47, 42]
def tokB (t : ByteArray) : Bool := !blankB (bt t 0) && (!dashB t && !openB t)

def NT (q : ByteArray) (i s e : Nat) : Prop :=
  (s = q.size ∧ e = q.size ∧ (i < q.size → tokB (q.extract i q.size) = false)) ∨
  (i ≤ s ∧ s < q.size ∧ tokB (q.extract s q.size) = true ∧ e = s + tlen (q.extract s q.size) ∧ (s = i ∨ tokB (q.extract i q.size) = false))

theorem NT_past {q : ByteArray} {i s e : Nat} (h : NT q i s e) (hi : q.size ≤ i) : s = q.size ∧ e = q.size := by
  rcases h with ⟨a, b, _⟩ | ⟨a, b, _⟩
  · exact ⟨a, b⟩
  · omega
theorem NT_order {q : ByteArray} {i s e : Nat} (h : NT q i s e) (hi : i < q.size) : i ≤ s ∧ s ≤ e ∧ e ≤ q.size ∧ (s = e → s = q.size) := by
  rcases h with ⟨a, b, _⟩ | ⟨a, b, c, d, _⟩
  · omega
  · have hz : (q.extract s q.size).size = q.size - s := by rw [ByteArray.size_extract]; omega
    have := tlen_bd (q.extract s q.size) (by omega)
    omega
theorem NT_again {q : ByteArray} {i s e s2 e2 : Nat} (h : NT q i s e) (hne : s ≠ e) (h2 : NT q s s2 e2) : s2 = s ∧ e2 = e := by
  rcases h with ⟨a, b, _⟩ | ⟨a, b, c, d, _⟩
  · omega
  · rcases h2 with ⟨a2, b2, c2⟩ | ⟨a2, b2, c2, d2, f2⟩
    · rw [c2 b] at c; cases c
    · rcases f2 with f2 | f2
      · subst f2; exact ⟨rfl, by omega⟩
      · rw [f2] at c; cases c

theorem index_two (a b : UInt8) : ∀ l : List UInt8, Lib.index l [a, b] = -1 ∨ (0 ≤ Lib.index l [a, b] ∧ Lib.index l [a, b] + 2 ≤ l.length)
  | [] => Or.inl rfl
  | x :: l => by
    unfold Lib.index
    by_cases hp : [a, b].isPrefixOf (x :: l) = true
    · right
      rw [if_pos hp]
      cases l with
      | nil => simp [List.isPrefixOf] at hp
      | cons y l => simp; omega
    · rw [if_neg hp]
      rcases index_two a b l with h | ⟨h1, h2⟩
      · left; rw [h]; rfl
      · right
        have : (Lib.index l [a, b] == -1) = false := by simp; omega
        rw [this]; simp; omega
theorem index_byte (c : UInt8) : ∀ l : List UInt8, Lib.indexByte l c = -1 ∨ (0 ≤ Lib.indexByte l c ∧ Lib.indexByte l c + 1 ≤ l.length)
  | [] => Or.inl rfl
  | x :: l => by
    unfold Lib.indexByte
    by_cases hp : (x == c) = true
    · right; rw [if_pos hp]; simp; omega
    · rw [if_neg hp]
      rcases index_byte c l with h | ⟨h1, h2⟩
      · left; rw [h]; rfl
      · right
        have : (Lib.indexByte l c == -1) = false := by simp; omega
        rw [this]; simp; omega
theorem open_size {t : ByteArray} (h : openB t = true) : 2 ≤ t.size := by
  unfold openB Lib.hasPrefix at h
  have hz : t.data.toList.length = t.size := by simp
  cases hl : t.data.toList with
  | nil => rw [hl] at h; simp [List.isPrefixOf] at h
  | cons x l =>
    cases l with
    | nil => rw [hl] at h; simp [List.isPrefixOf] at h
    | cons y l => rw [hl] at hz; simp at hz; omega
end Go.Proofs.Qxb6602321a
