/-
  THE WALKS OF bytes.IndexByte, blockEnd, ZZBlockEnd, zzb1MaxInt.
-/
import Derived.Test.Qxb6602932aRows
import Derived.Test.Qxb6602932aBlk
import Derived.WalkKit
import Derived.WalkSpells
import Derived.WalkLawsBesides
import Derived.Deep.QuietTactic
import Derived.BigQuiet
namespace Go.Proofs.Qxb6602932a
open Go.RowKit
set_option linter.unusedVariables false
set_option linter.unusedSimpArgs false

theorem ret_int {k : IntKind} {a b : Int} (h : a = b) : Ending.returned (.int k a) = .returned (.int k b) := by rw [h]
theorem ret_bool {a b : Bool} (h : a = b) : Ending.returned (.bool a) = .returned (.bool b) := by rw [h]

def IdxPost (xs : List Int) (c : Int) (e : Ending) : Prop := ∃ n : Int, e = .returned (.int .i64 n) ∧ IdxL xs c n
set_option maxHeartbeats 400000 in
theorem index_any (g off m cap : Nat) (xs : List Int) (w : World) (hx : xs.length = m) (hc : ∀ i, i < m → w.cell? ⟨g, off + i, none⟩ = some (.int .u8 (xs.getD i 0))) (hb : ∀ x ∈ xs, 0 ≤ x ∧ x ≤ 255) :
    Calls Try.prog 22 #[.slice (some ⟨g, off, none⟩) m cap, .int .u8 10] w fun e w' => IdxPost xs 10 e ∧ w' = w := by
  have H : Hid (IdxL xs 10 (Lib.indexByte (Lib.bytesOf xs) (10 : Int).toNat.toUInt8)) := idx_list 10 (by omega) (by omega) xs hb
  have HC : Hid (∀ i, i < m → w.cell? ⟨g, off + i, none⟩ = some (.int .u8 (xs.getD i 0))) := hc
  have HX : Hid (xs.length = m) := hx
  clear hc hx hb
  go_enter Try.func22, Try.ntmps22
  go_wp2
  rw [run_callFunc_extern Try.func24 (by kernel_rfl) (by kernel_rfl) (by kernel_rfl) (e := Extern.BytealgIndexByte.indexByte) (by kernel_rfl), Lib.run_indexByteSlice w g off m cap xs HX.out HC.out 10]
  simp only [Result.andThen]
  rw [Oper.upon_value]
  go_wp2
  go_ret
  exact ⟨⟨_, rfl, H.out⟩, rfl⟩

theorem max_any (w : World) : Calls Try.prog 16 #[] w fun e w' => e = .returned (.int .i64 9223372036854775807) ∧ w' = w := by
  go_enter Try.func16, Try.ntmps16
  go_wp2
  go_ret
  exact ⟨rfl, rfl⟩

def BEPost (D : List Int) (t : Nat) (e : Ending) : Prop := ∃ n : Nat, e = .returned (.int .i64 n) ∧ BE D t n
set_option maxHeartbeats 400000 in
theorem end_far (a : Option Addr) (D : List Int) (n pos bs : Nat) (r : Nat) (w : World) (hD : D.length = n) (hs : pos + bs ≤ 9223372036854775807) (hn : n ≤ 1048576) (hfar : n ≤ pos + bs)
    (c0 : w.cell? ⟨r, 0, none⟩ = some (.slice a n n)) (c1 : w.cell? ⟨r, 1, none⟩ = some (.int .i64 pos)) (c3 : w.cell? ⟨r, 3, none⟩ = some (.int .i64 bs)) :
    Calls Try.prog 21 #[.pointer (some ⟨r, 0, none⟩)] w fun e w' => BEPost D (pos + bs) e ∧ ∃ k, w' = w.drewN k := by
  have HE : Hid (BE D (pos + bs) n) := Or.inl ⟨by omega, hD.symm⟩
  clear hD
  go_enter Try.func21, Try.ntmps21
  go_wp2
  go_quiet (fail)
  go_wp2
  go_ret
  exact ⟨⟨n, rfl, HE.out⟩, _, rfl⟩

set_option maxHeartbeats 1000000 in
theorem end_near (g : Nat) (D : List Int) (n pos bs : Nat) (r : Nat) (w : World) (hD : D.length = n) (hs : pos + bs < n) (hn : n ≤ 1048576)
    (c0 : w.cell? ⟨r, 0, none⟩ = some (.slice (some ⟨g, 0, none⟩) n n)) (c1 : w.cell? ⟨r, 1, none⟩ = some (.int .i64 pos)) (c3 : w.cell? ⟨r, 3, none⟩ = some (.int .i64 bs))
    (hc : ∀ i, i < n → w.cell? ⟨g, i, none⟩ = some (.int .u8 (D.getD i 0))) (hb : ∀ x ∈ D, 0 ≤ x ∧ x ≤ 255) :
    Calls Try.prog 21 #[.pointer (some ⟨r, 0, none⟩)] w fun e w' => BEPost D (pos + bs) e ∧ ∃ k, w' = w.drewN k := by
  have HD : Hid (D.length = n) := hD
  have HC : Hid (∀ i, i < n → w.cell? ⟨g, i, none⟩ = some (.int .u8 (D.getD i 0))) := hc
  have HB : Hid (∀ x ∈ D, 0 ≤ x ∧ x ≤ 255) := hb
  clear hD hc hb
  go_enter Try.func21, Try.ntmps21
  go_wp2
  go_quiet (fail)
  go_wp2_with fail
  refine (index_any g (pos + bs) (n - (pos + bs)) _ (D.drop (pos + bs)) _ (by rw [List.length_drop, HD.out]) ?_ (fun x hx => HB.out x (List.mem_of_mem_drop hx))).mono ?_
  · intro i hi
    rw [getD_drop]
    simpa using HC.out (pos + bs + i) (by omega)
  · rintro e w' ⟨⟨m, rfl, hm⟩, hw⟩
    obtain rfl := hw.symm
    clear hw
    rcases hm with ⟨h1, h2⟩ | ⟨m, h1, h2, h3, h4⟩
    · have HE : Hid (BE D (pos + bs) D.length) := BE_none (by rw [HD.out]; exact hs) h2
      subst h1
      clear h2
      go_wp2
      go_ret
      exact ⟨⟨n, rfl, by have := HE.out; rw [HD.out] at this; exact this⟩, _, rfl⟩
    · have HE : Hid (BE D (pos + bs) (pos + bs + m + 1)) := BE_some (by rw [HD.out]; exact hs) h2 h3 h4
      rw [List.length_drop, HD.out] at h2
      have h2' : pos + bs + m + 1 ≤ n := by omega
      subst h1
      clear h2 h3 h4
      go_wp2
      go_ret
      exact ⟨⟨pos + bs + m + 1, ret_int (by omega), HE.out⟩, _, rfl⟩

/-- What ZZBlockEnd is told of the slice: far from its end it is never looked into. -/
def Data (w : World) (a : Option Addr) (D : List Int) : Prop :=
  (a = none ∧ D = []) ∨ ∃ g, a = some ⟨g, 0, none⟩ ∧ g < w.heap.size ∧ ∀ i, i < D.length → w.cell? ⟨g, i, none⟩ = some (.int .u8 (D.getD i 0))
theorem Data.below {w w' : World} {a : Option Addr} {D : List Int} (h : Data w a D) (hb : Below w.heap.size w w') : Data w' a D := by
  rcases h with h | ⟨g, h1, h2, h3⟩
  · exact Or.inl h
  · exact Or.inr ⟨g, h1, Nat.lt_of_lt_of_le h2 hb.size, fun i hi => (hb.cell (p := ⟨g, i, none⟩) h2).trans (h3 i hi)⟩

theorem below_drewN {B : Nat} {a w : World} (h : Below B a w) (n : Nat) : Below B a (w.drewN n) := ⟨h.os, h.tape, h.output, h.size, h.block⟩

set_option maxHeartbeats 1000000 in
theorem zzEnd_any (a : Option Addr) (D : List Int) (n pos bs : Nat) (w : World) (hD : D.length = n) (hs : pos + bs ≤ 9223372036854775807) (hn : n ≤ 1048576) (hd : Data w a D) (hb : ∀ x ∈ D, 0 ≤ x ∧ x ≤ 255) :
    Calls Try.prog 17 #[.slice a n n, .int .i64 pos, .int .i64 bs] w fun e w' => BEPost D (pos + bs) e ∧ Below w.heap.size w w' := by
  have HD : Hid (D.length = n) := hD
  have HA : Hid (Data w a D) := hd
  have HB : Hid (∀ x ∈ D, 0 ≤ x ∧ x ≤ 255) := hb
  clear hD hd hb
  go_enter Try.func17, Try.ntmps17
  go_wp2_with fail
  by_cases hfar : n ≤ pos + bs
  · refine (end_far a D n pos bs w.heap.size _ HD.out hs hn hfar (by simp) (by simp) (by simp)).mono ?_
    rintro e w' ⟨⟨m, rfl, hm⟩, k, rfl⟩
    have HM : Hid (BE D (pos + bs) m) := hm
    clear hm
    go_wp2
    go_ret
    exact ⟨⟨m, rfl, HM.out⟩, below_drewN ((Below.refl _ _).alloc (Nat.le_refl _) _) _⟩
  · rcases HA.out with ⟨rfl, h0⟩ | ⟨g, rfl, hg, hc⟩
    · have := HD.out
      rw [h0] at this; simp at this; omega
    · rw [HD.out] at hc
      have HC : Hid (∀ i, i < n → w.cell? ⟨g, i, none⟩ = some (.int .u8 (D.getD i 0))) := hc
      clear hc
      refine (end_near g D n pos bs w.heap.size _ HD.out (by omega) hn (by simp) (by simp) (by simp) (fun i hi => ?_) HB.out).mono ?_
      · rw [World.cell?_alloc_past _ _ _ hg]; exact HC.out i hi
      · rintro e w' ⟨⟨m, rfl, hm⟩, k, rfl⟩
        have HM : Hid (BE D (pos + bs) m) := hm
        clear hm
        go_wp2
        go_ret
        exact ⟨⟨m, rfl, HM.out⟩, below_drewN ((Below.refl _ _).alloc (Nat.le_refl _) _) _⟩
end Go.Proofs.Qxb6602932a
