/-
  THE WALK OF accesslogB1Escape: a slice of its own, one or two bytes appended a round, then string(b).
-/
import Derived.Test.Qxb6602157aScan
import Derived.Laws.BytesArg
namespace Go.Proofs.Qxb6602157a
open Go.RowKit
set_option linter.unusedVariables false
set_option linter.unusedSimpArgs false

/-- The first k bytes of c, escaped. -/
def escTo (c : ByteArray) (e : Int) : Nat → List Int
  | 0 => []
  | k + 1 => escTo c e k ++ (if bt c k = e ∨ bt c k = 92 then [92, bt c k] else [bt c k])
theorem esc_len (c : ByteArray) (e : Int) : ∀ k, (escTo c e k).length ≤ 2 * k
  | 0 => by simp [escTo]
  | k + 1 => by
    have := esc_len c e k
    rw [escTo, List.length_append]
    split <;> simp <;> omega
theorem esc_two {c : ByteArray} {e : Int} {k : Nat} (h : bt c k = e ∨ bt c k = 92) : escTo c e (k + 1) = (escTo c e k ++ [92]) ++ [bt c k] := by
  rw [escTo, if_pos h, List.append_assoc]; rfl
theorem esc_one {c : ByteArray} {e : Int} {k : Nat} (h : ¬ (bt c k = e ∨ bt c k = 92)) : escTo c e (k + 1) = escTo c e k ++ [bt c k] := by
  rw [escTo, if_neg h]

theorem ret_str {a b : ByteArray} (h : a = b) : Ending.returned (.string a) = .returned (.string b) := by rw [h]
theorem info5 : (Try.prog.info? 5).map (fun i => (i.zero, i.size, i.bytes)) = some (some (.int .u8 0), 1, 1) := by kernel_rfl
theorem lt_of_own {w : World} {base g n cap : Nat} {e : TypeId} {xs : List Value} (h : w.ownsRow base e 1 (.slice (some ⟨g, 0, none⟩) n cap) n xs) : g < w.heap.size := by
  rcases h.2 with ⟨h1, _⟩ | ⟨g', cap', cur, h1, _, hg, _⟩
  · cases h1
  · simp only [Value.slice.injEq, Option.some.injEq, Addr.mk.injEq, and_true, true_and] at h1
    obtain ⟨rfl, rfl⟩ := h1
    exact (Array.getElem?_eq_some_iff.1 hg).1
theorem own_cells {w : World} {base g cap : Nat} {e : TypeId} {xs : List Int} {n : Nat} (hn : xs.length = n) (h : w.ownsRow base e 1 (.slice (some ⟨g, 0, none⟩) n cap) n (xs.map (Value.int .u8))) :
    ∀ i, i < n → w.cell? ⟨g, 0 + i, none⟩ = some (.int .u8 (xs.getD i 0)) := by
  intro i hi
  rw [Nat.zero_add, h.cellAt i (by omega)]
  simp [List.getElem?_map, List.getElem?_eq_getElem (show i < xs.length by omega), List.getD]

theorem own_push {w : World} {base g n cap : Nat} {e : TypeId} {xs : List Int} {x : Int} (hn : xs.length = n) (h : w.ownsRow base e 1 (.slice (some ⟨g, 0, none⟩) (n + 1) cap) (n + 1) (xs.map (Value.int .u8) ++ [.int .u8 x])) :
    Hid ((xs ++ [x]).length = n + 1 ∧ w.ownsRow base e 1 (.slice (some ⟨g, 0, none⟩) (n + 1) cap) (n + 1) ((xs ++ [x]).map (Value.int .u8))) := by
  refine ⟨by simp [hn], ?_⟩
  rw [List.map_append]; exact h
theorem below_push {B : Nat} {w wr w1 : World} {o : Obj} (hb : Below B w wr) (hs : B < wr.heap.size) (hg : (wr.alloc o).grownBy w1 (some B)) : Hid (Below B w w1) :=
  (hb.alloc (Nat.le_of_lt hs) o).grown hg (by simp; omega) (by intro k h; cases h; exact Nat.le_refl _)

set_option maxHeartbeats 1000000 in
theorem escape_any (c : ByteArray) (e : Int) (w : World) (hc : c.size ≤ 1048576) :
    Calls Try.prog 22 #[.string c, .int .u8 e] w fun en w' => en = .returned (.string (strOfNums (escTo c e c.size))) ∧ Below w.heap.size w w' := by
  obtain ⟨i0, hi, hz0, hz1, hz2⟩ := info_parts info5
  go_enter Try.func22, Try.ntmps22
  go_wp2_with (at_make; refine wpList_make_own _ rfl _ _ 28 rfl w.heap.size 5 i0 (.int .u8 0) 1 Try.underlying28 hi hz0 hz1 .i64 .i64 _ (2 * c.size) rfl rfl (by omega) (by rw [hz2]; omega) (by unfold maxLen; omega) (Nat.le_refl _) ?_; intro w0 hown0 hgrow0)
  have hb0 : Below w.heap.size w w0 := (Below.refl _ _).grown hgrow0 (Nat.le_refl _) (by intro k h; cases h)
  clear hgrow0
  go_loopw [5, 6] (fun v p wr => ∃ (k n : Nat) (xs : List Int), v = .slice (some ⟨w.heap.size, 0, none⟩) n (2 * c.size) ∧ p = .int .i64 k ∧ k ≤ c.size ∧ n ≤ 2 * k ∧ Hid (xs = escTo c e k) ∧ Hid (xs.length = n) ∧ Hid (wr.ownsRow w.heap.size 5 1 (.slice (some ⟨w.heap.size, 0, none⟩) n (2 * c.size)) n (xs.map (Value.int .u8))) ∧ Hid (Below w.heap.size w wr)) (fun _ p _ => c.size - (intOf p).toNat)
  case atStart => exact ⟨0, 0, [], rfl, rfl, Nat.zero_le _, Nat.zero_le _, rfl, rfl, hown0, hb0⟩
  case round =>
    obtain ⟨k, n, xs, rfl, rfl, hk, hn, HX, HL, HO, HB⟩ := hrel
    clear hown0 hb0
    have hsz : w.heap.size < wr.heap.size := lt_of_own HO.out
    by_cases hlt : k < c.size
    · have HK : Hid (bt c k = (c[k].toNat : Int)) := bt_in hlt
      by_cases he : ((c[k].toNat : Int) == e) = true
      · have HT : Hid (bt c k = e ∨ bt c k = 92) := Or.inl (by rw [HK.out]; simpa using he)
        go_wp2_with (first | (at_builtin; refine wpList_append_fits _ rfl (.tmp 28) (.tmp 29) 28 rfl w.heap.size 5 i0 1 Try.underlying28 hi hz1 w.heap.size n (2 * c.size) _ rfl (HO.out.alloc _) ⟨wr.heap.size, 0, none⟩ 1 1 [.int .u8 92] rfl rfl (cell_one_new _ _ _) (ints_oneCell .u8 [92]) (by omega) ?_; intro w1 hown1 hgrow1; have HO1 := own_push HL.out hown1; have HB1 := below_push HB.out hsz hgrow1; have hsz1 := lt_of_own HO1.out.2; clear hown1 hgrow1) | (at_builtin; refine wpList_append_fits _ rfl (.tmp 31) (.tmp 33) 28 rfl w.heap.size 5 i0 1 Try.underlying28 hi hz1 w.heap.size (n + 1) (2 * c.size) _ rfl (HO1.out.2.alloc _) ⟨w1.heap.size, 0, none⟩ 1 1 [.int .u8 (c[k].toNat : Int)] rfl rfl (cell_one_new _ _ _) (ints_oneCell .u8 [(c[k].toNat : Int)]) (by omega) ?_; intro w2 hown2 hgrow2; have HO2 := own_push HO1.out.1 hown2; have HB2 := below_push HB1.out hsz1 hgrow2; clear hown2 hgrow2))
        go_roundw
        case rel => exact ⟨k + 1, n + 1 + 1, xs ++ [92] ++ [(c[k].toNat : Int)], rfl, by go_num, by omega, by omega, (by rw [esc_two HT.out, HX.out, HK.out] : _ = escTo c e (k + 1)), HO2.out.1, HO2.out.2, HB2⟩
        case measure => simp [intOf]; omega
      · have he' : ((c[k].toNat : Int) == e) = false := by simpa using he
        clear he
        by_cases h92 : ((c[k].toNat : Int) == 92) = true
        · have HT : Hid (bt c k = e ∨ bt c k = 92) := Or.inr (by rw [HK.out]; simpa using h92)
          go_wp2_with (first | (at_builtin; refine wpList_append_fits _ rfl (.tmp 28) (.tmp 29) 28 rfl w.heap.size 5 i0 1 Try.underlying28 hi hz1 w.heap.size n (2 * c.size) _ rfl (HO.out.alloc _) ⟨wr.heap.size, 0, none⟩ 1 1 [.int .u8 92] rfl rfl (cell_one_new _ _ _) (ints_oneCell .u8 [92]) (by omega) ?_; intro w1 hown1 hgrow1; have HO1 := own_push HL.out hown1; have HB1 := below_push HB.out hsz hgrow1; have hsz1 := lt_of_own HO1.out.2; clear hown1 hgrow1) | (at_builtin; refine wpList_append_fits _ rfl (.tmp 31) (.tmp 33) 28 rfl w.heap.size 5 i0 1 Try.underlying28 hi hz1 w.heap.size (n + 1) (2 * c.size) _ rfl (HO1.out.2.alloc _) ⟨w1.heap.size, 0, none⟩ 1 1 [.int .u8 (c[k].toNat : Int)] rfl rfl (cell_one_new _ _ _) (ints_oneCell .u8 [(c[k].toNat : Int)]) (by omega) ?_; intro w2 hown2 hgrow2; have HO2 := own_push HO1.out.1 hown2; have HB2 := below_push HB1.out hsz1 hgrow2; clear hown2 hgrow2))
          go_roundw
          case rel => exact ⟨k + 1, n + 1 + 1, xs ++ [92] ++ [(c[k].toNat : Int)], rfl, by go_num, by omega, by omega, (by rw [esc_two HT.out, HX.out, HK.out] : _ = escTo c e (k + 1)), HO2.out.1, HO2.out.2, HB2⟩
          case measure => simp [intOf]; omega
        · have h92' : ((c[k].toNat : Int) == 92) = false := by simpa using h92
          clear h92
          have HT : Hid (¬ (bt c k = e ∨ bt c k = 92)) := (by rw [HK.out]; simp at he' h92'; simp [he', h92'] : ¬ (bt c k = e ∨ bt c k = 92))
          go_wp2_with (at_builtin; refine wpList_append_fits _ rfl (.tmp 31) (.tmp 33) 28 rfl w.heap.size 5 i0 1 Try.underlying28 hi hz1 w.heap.size n (2 * c.size) _ rfl (HO.out.alloc _) ⟨wr.heap.size, 0, none⟩ 1 1 [.int .u8 (c[k].toNat : Int)] rfl rfl (cell_one_new _ _ _) (ints_oneCell .u8 [(c[k].toNat : Int)]) (by omega) ?_; intro w1 hown1 hgrow1; have HO1 := own_push HL.out hown1; have HB1 := below_push HB.out hsz hgrow1; clear hown1 hgrow1)
          go_roundw
          case rel => exact ⟨k + 1, n + 1, xs ++ [(c[k].toNat : Int)], rfl, by go_num, by omega, by omega, (by rw [esc_one HT.out, HX.out, HK.out] : _ = escTo c e (k + 1)), HO1.out.1, HO1.out.2, HB1⟩
          case measure => simp [intOf]; omega
    · have hkc : k = c.size := by omega
      subst hkc
      have hconv := run_convert_bytes_arg (P := Try.prog) wr 28 5 Try.underlying28 Try.underlying5 w.heap.size 0 n (2 * c.size) xs HL.out (own_cells HL.out HO.out) 9 Try.underlying9
      go_wp2
      go_ret
      exact ⟨ret_str (by rw [HX.out]), HB.out⟩
end Go.Proofs.Qxb6602157a
