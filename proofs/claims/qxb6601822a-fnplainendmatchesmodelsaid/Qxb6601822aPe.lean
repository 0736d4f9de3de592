/-
  THE PLAIN LAW OF plainEnd: no Go in sight. 'bt s k': the byte of s at k, 0 past its end. 'stopB': a plain scalar that starts at i stops at j. 'PE s i flow e': e is the first stop at or after i with the spaces before it taken off.
-/
namespace Go.Proofs.Qxb6601822a

def bt (s : ByteArray) (k : Nat) : Int := if h : k < s.size then ((s[k]).toNat : Int) else 0
def endsB (c : Int) : Bool := c == 10 || (c == 13 || c == 0)
def blankB (c : Int) : Bool := c == 32 || endsB c
def flowB (c : Int) : Bool := c == 44 || (c == 63 || (c == 91 || (c == 93 || (c == 123 || c == 125))))
def colB (s : ByteArray) (j : Nat) : Bool := bt s j == 58 && blankB (bt s (j + 1))
def hashB (s : ByteArray) (i j : Nat) : Bool := bt s j == 35 && (decide (i < j) && bt s (j - 1) == 32)
def stopB (s : ByteArray) (i j : Nat) (flow : Bool) : Bool :=
  endsB (bt s j) || (colB s j || ((flow && flowB (bt s j)) || hashB s i j))

theorem bt_in {s : ByteArray} {k : Nat} (h : k < s.size) : bt s k = (s[k].toNat : Int) := by
  unfold bt; rw [dif_pos h]
theorem bt_out {s : ByteArray} {k : Nat} (h : s.size ≤ k) : bt s k = 0 := by
  unfold bt; rw [dif_neg (by omega)]
theorem bt_lo (s : ByteArray) (k : Nat) : 0 ≤ bt s k ∧ bt s k ≤ 255 := by
  unfold bt
  split
  · have := (s[k]).toNat_lt; omega
  · omega
theorem lt_of_bt {s : ByteArray} {k : Nat} (h : bt s k ≠ 0) : k < s.size := by
  by_cases g : k < s.size
  · exact g
  · exact absurd (bt_out (by omega)) h
theorem lt_of_ends {s : ByteArray} {k : Nat} (h : endsB (bt s k) = false) : k < s.size := by
  apply lt_of_bt
  intro e
  rw [e] at h
  simp [endsB] at h

/-- The stops of [i, j) and of j; the spaces before j taken off. -/
def PEat (s : ByteArray) (i : Nat) (flow : Bool) (j e : Nat) : Prop :=
  i ≤ j ∧ (∀ k, i ≤ k → k < j → stopB s i k flow = false) ∧ stopB s i j flow = true ∧ i ≤ e ∧ e ≤ j ∧
    (∀ k, e ≤ k → k < j → bt s k = 32) ∧ (e = i ∨ bt s (e - 1) ≠ 32)
def PE (s : ByteArray) (i : Nat) (flow : Bool) (e : Nat) : Prop := ∃ j, PEat s i flow j e

theorem PEat_uniq {s : ByteArray} {i : Nat} {flow : Bool} {j1 e1 j2 e2 : Nat} (h1 : PEat s i flow j1 e1) (h2 : PEat s i flow j2 e2) : j1 = j2 ∧ e1 = e2 := by
  obtain ⟨a1, b1, c1, d1, f1, g1, k1⟩ := h1
  obtain ⟨a2, b2, c2, d2, f2, g2, k2⟩ := h2
  have hj : j1 = j2 := by
    rcases Nat.lt_trichotomy j1 j2 with h | h | h
    · have := b2 j1 a1 h; rw [c1] at this; cases this
    · exact h
    · have := b1 j2 a2 h; rw [c2] at this; cases this
  subst hj
  refine ⟨rfl, ?_⟩
  rcases Nat.lt_trichotomy e1 e2 with h | h | h
  · rcases k2 with k2 | k2
    · omega
    · exact absurd (g1 (e2 - 1) (by omega) (by omega)) k2
  · exact h
  · rcases k1 with k1 | k1
    · omega
    · exact absurd (g2 (e1 - 1) (by omega) (by omega)) k1
theorem PE_uniq {s : ByteArray} {i : Nat} {flow : Bool} {e1 e2 : Nat} (h1 : PE s i flow e1) (h2 : PE s i flow e2) : e1 = e2 := by
  obtain ⟨_, h1⟩ := h1; obtain ⟨_, h2⟩ := h2; exact (PEat_uniq h1 h2).2

/-! ### The shift -/
theorem bt_shift (p s : ByteArray) (k : Nat) : bt (p ++ s) (p.size + k) = bt s k := by
  by_cases h : k < s.size
  · rw [bt_in h, bt_in (by simp [ByteArray.size_append]; omega)]
    rw [ByteArray.getElem_append_right (by omega)]
    simp
  · rw [bt_out (s := s) (by omega), bt_out (s := p ++ s) (by simp [ByteArray.size_append]; omega)]
theorem stop_shift (p s : ByteArray) (i j : Nat) (flow : Bool) : stopB (p ++ s) (p.size + i) (p.size + j) flow = stopB s i j flow := by
  have e1 := bt_shift p s j
  have e2 := bt_shift p s (j + 1)
  have e3 : (decide (p.size + i < p.size + j) && bt (p ++ s) (p.size + j - 1) == 32) = (decide (i < j) && bt s (j - 1) == 32) := by
    by_cases g : i < j
    · have := bt_shift p s (j - 1)
      rw [show p.size + (j - 1) = p.size + j - 1 by omega] at this
      rw [this]; simp [g]
    · simp [g]
  rw [← Nat.add_assoc] at e2
  unfold stopB colB hashB
  rw [e1, e2, e3]
theorem PE_shift {p s : ByteArray} {i : Nat} {flow : Bool} {e : Nat} (h : PE s i flow e) : PE (p ++ s) (p.size + i) flow (p.size + e) := by
  obtain ⟨j, a, b, c, d, f, g, k⟩ := h
  refine ⟨p.size + j, by omega, ?_, ?_, by omega, by omega, ?_, ?_⟩
  · intro x hx hy
    have := stop_shift p s i (x - p.size) flow
    rw [show p.size + (x - p.size) = x by omega] at this
    rw [this]; exact b _ (by omega) (by omega)
  · rw [stop_shift p s i j flow]; exact c
  · intro x hx hy
    have := bt_shift p s (x - p.size)
    rw [show p.size + (x - p.size) = x by omega] at this
    rw [this]; exact g _ (by omega) (by omega)
  · by_cases he : e = i
    · left; omega
    · right
      rcases k with k | k
      · exact absurd k he
      · have := bt_shift p s (e - 1)
        rw [show p.size + (e - 1) = p.size + e - 1 by omega] at this
        rw [this]; exact k
theorem shift_law {p s : ByteArray} {i : Nat} {flow : Bool} {a b : Nat} (h1 : PE s i flow a) (h2 : PE (p ++ s) (p.size + i) flow b) : b = p.size + a :=
  PE_uniq h2 (PE_shift h1)

/-! ### Past the end; bounds -/
theorem PE_past {s : ByteArray} {i : Nat} {flow : Bool} {e : Nat} (hi : s.size ≤ i) (h : PE s i flow e) : e = i := by
  refine PE_uniq h ⟨i, by omega, ?_, ?_, by omega, by omega, ?_, Or.inl rfl⟩
  · intro k _ _; omega
  · simp [stopB, bt_out hi, endsB]
  · intro k _ _; omega
theorem PE_lo {s : ByteArray} {i : Nat} {flow : Bool} {e : Nat} (h : PE s i flow e) : i ≤ e := by
  obtain ⟨j, a, b, c, d, f, g, k⟩ := h; exact d
theorem stop_end (s : ByteArray) (i k : Nat) (flow : Bool) (h : s.size ≤ k) : stopB s i k flow = true := by
  simp [stopB, bt_out h, endsB]
theorem PE_hi {s : ByteArray} {i : Nat} {flow : Bool} {e : Nat} (hi : i ≤ s.size) (h : PE s i flow e) : e ≤ s.size := by
  obtain ⟨j, a, b, c, d, f, g, k⟩ := h
  by_cases hj : j ≤ s.size
  · omega
  · have := b s.size hi (by omega)
    rw [stop_end s i _ flow (by omega)] at this; cases this

/-! ### Flow and block -/
theorem stop_flow {s : ByteArray} {i k : Nat} (h : stopB s i k false = true) : stopB s i k true = true := by
  simp [stopB] at h ⊢
  rcases h with h | h | h
  · exact Or.inl h
  · exact Or.inr (Or.inl h)
  · exact Or.inr (Or.inr (Or.inr h))
theorem stop_true {s : ByteArray} {i k : Nat} (h : stopB s i k true = true) (h' : stopB s i k false = false) : flowB (bt s k) = true := by
  simp [stopB] at h h'
  rcases h with h | h | h | h
  · simp [h] at h'
  · simp [h] at h'
  · exact h
  · simp [h] at h'
theorem flow_stop {s : ByteArray} {i k : Nat} (h : flowB (bt s k) = true) : stopB s i k true = true := by
  simp [stopB, h]
theorem flow_law {s : ByteArray} {i a b : Nat} (h1 : PE s i true a) (h2 : PE s i false b) :
    a ≤ b ∧ ((∃ k, i ≤ k ∧ k < b ∧ flowB (bt s k) = true) ↔ a ≠ b) := by
  obtain ⟨j1, p1⟩ := h1; obtain ⟨j2, p2⟩ := h2
  have q1 := p1; have q2 := p2
  obtain ⟨a1, b1, c1, d1, f1, g1, k1⟩ := p1
  obtain ⟨a2, b2, c2, d2, f2, g2, k2⟩ := p2
  have hle : j1 ≤ j2 := by
    by_cases h : j1 ≤ j2
    · exact h
    · have := b1 j2 a2 (by omega); rw [stop_flow c2] at this; cases this
  by_cases hj : j1 = j2
  · subst hj
    have e : a = b := by
      rcases Nat.lt_trichotomy a b with h | h | h
      · rcases k2 with k2 | k2
        · omega
        · exact absurd (g1 (b - 1) (by omega) (by omega)) k2
      · exact h
      · rcases k1 with k1 | k1
        · omega
        · exact absurd (g2 (a - 1) (by omega) (by omega)) k1
    subst e
    refine ⟨Nat.le_refl _, ?_⟩
    constructor
    · rintro ⟨k, x, y, z⟩
      have := b1 k x (by omega)
      rw [flow_stop z] at this; cases this
    · intro h; exact absurd rfl h
  · have n2 := b2 j1 a1 (by omega)
    have fl := stop_true c1 n2
    have hb : j1 < b := by
      by_cases h : j1 < b
      · exact h
      · have := g2 j1 (by omega) (by omega)
        rw [this] at fl; simp [flowB] at fl
    refine ⟨by omega, ?_⟩
    constructor
    · intro _; omega
    · intro _; exact ⟨j1, a1, hb, fl⟩
end Go.Proofs.Qxb6601822a
