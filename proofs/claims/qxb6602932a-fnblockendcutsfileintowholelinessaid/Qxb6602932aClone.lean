/-
  THE WALK OF zzb1Clone: nil stays nil; else a row of its own, a byte a round.
-/
import Derived.Test.Qxb6602932aEnds
import Derived.ProofKit
import Derived.RowKit3
import Derived.OpenShut
namespace Go.Proofs.Qxb6602932a
open Go.RowKit
set_option linter.unusedVariables false
set_option linter.unusedSimpArgs false

theorem info5 : (Try.prog.info? 5).map (fun i => (i.zero, i.size, i.bytes)) = some (some (.int .u8 0), 1, 1) := by kernel_rfl
theorem lt_of_own {w : World} {base g n cap : Nat} {e : TypeId} {xs : List Value} (h : w.ownsRow base e 1 (.slice (some ⟨g, 0, none⟩) n cap) n xs) : g < w.heap.size := by
  rcases h.2 with ⟨h1, _⟩ | ⟨g', cap', cur, h1, _, hg, _⟩
  · cases h1
  · simp only [Value.slice.injEq, Option.some.injEq, Addr.mk.injEq, and_true, true_and] at h1
    obtain ⟨rfl, rfl⟩ := h1
    exact (Array.getElem?_eq_some_iff.1 hg).1

theorem Data.cell {w : World} {g : Nat} {D : List Int} (h : Data w (some ⟨g, 0, none⟩) D) {i : Nat} (hi : i < D.length) : w.cell? ⟨g, i, none⟩ = some (.int .u8 (D.getD i 0)) := by
  rcases h with ⟨h, _⟩ | ⟨g', h, _, hc⟩
  · cases h
  · cases h; exact hc i hi

set_option maxHeartbeats 400000 in
theorem clone_nil (w : World) : Calls Try.prog 10 #[.slice none 0 0] w fun e w' => e = .returned (.slice none 0 0) ∧ w' = w := by
  have q22 := fun (w : World) (a : Option Addr) (n c n' c' : Nat) => Lib.run_eql_slice_nil (P := Try.prog) w 22 5 a n c n' c' Try.underlying22
  go_enter Try.func10, Try.ntmps10
  go_wp2
  go_ret
  exact ⟨rfl, rfl⟩

theorem take_getD (zs : List Int) (n j : Nat) (h : j < n) : (zs.take n).getD j 0 = zs.getD j 0 := by
  simp [List.getD, List.getElem?_take, h]
theorem data_of_own {w : World} {g n : Nat} {xs : List Value} {zs : List Int} (hn : n ≤ zs.length) (h : w.ownsRow g 5 1 (.slice (some ⟨g, 0, none⟩) n n) n xs) (hx : ∀ j, j < n → xs[j]? = some (.int .u8 (zs.getD j 0))) :
    Data w (some ⟨g, 0, none⟩) (zs.take n) := by
  refine Or.inr ⟨g, rfl, lt_of_own h, fun i hi => ?_⟩
  rw [List.length_take] at hi
  rw [take_getD zs n i (by omega), h.cellAt i (by omega), hx i (by omega)]

set_option maxHeartbeats 1000000 in
theorem clone_row (x : Addr) (len cap : Nat) (zs : List Int) (w : World) (hl : len ≤ cap) (hm : len ≤ 1048576) (hz : zs.length = cap) (hcell : ∀ i, i < zs.length → w.cell? (x.add i) = some (.int .u8 (zs.getD i 0))) :
    Calls Try.prog 10 #[.slice (some x) len cap] w fun e w' => e = .returned (.slice (some ⟨w.heap.size, 0, none⟩) len len) ∧ Data w' (some ⟨w.heap.size, 0, none⟩) (zs.take len) ∧ Below w.heap.size w w' := by
  have q22 := fun (w : World) (a : Option Addr) (n c n' c' : Nat) => Lib.run_eql_slice_nil (P := Try.prog) w 22 5 a n c n' c' Try.underlying22
  obtain ⟨i0, hi, hz0, hz1, hz2⟩ := info_parts info5
  have HCell : Hid (0 < len → ∃ b off, x = ⟨b, off, none⟩ ∧ ∀ j, j < zs.length → w.cell? ⟨b, off + j, none⟩ = some (.int .u8 (zs.getD j 0))) := fun h => ints_at hcell (by omega)
  have HZ : Hid (len ≤ zs.length) := (by omega : len ≤ zs.length)
  clear hcell hz
  go_enter Try.func10, Try.ntmps10
  go_wp2_with (at_make; refine wpList_make_full _ rfl _ _ 22 rfl w.heap.size 5 i0 (.int .u8 0) 1 Try.underlying22 hi hz0 hz1 .i64 .i64 _ _ len rfl rfl rfl rfl (by rw [hz2]; omega) (by unfold maxLen; omega) (Nat.le_refl _) ?_; intro w0 hown0 hgrow0)
  have hb0 : Below w.heap.size w w0 := (Below.refl _ _).grown hgrow0 (Nat.le_refl _) (by intro k h; cases h)
  clear hgrow0
  go_loopw [4] (fun p wr => ∃ (k : Nat) (xs : List Value), p = .int .i64 k ∧ k ≤ len ∧ Hid (wr.ownsRow w.heap.size 5 1 (.slice (some ⟨w.heap.size, 0, none⟩) len len) len xs) ∧ Hid (∀ j, j < k → xs[j]? = some (.int .u8 (zs.getD j 0))) ∧ Hid (Below w.heap.size w wr)) (fun p _ => len - (intOf p).toNat)
  case atStart => exact ⟨0, _, rfl, Nat.zero_le _, hown0, fun j h => by omega, hb0⟩
  case round =>
    obtain ⟨k, xs, rfl, hk, HO, HX, HB⟩ := hrel
    clear hown0 hb0
    by_cases hlt : k < len
    · obtain ⟨b, off, rfl, hc⟩ := HCell.out (by omega)
      have hck : w.cell? ⟨b, off + k, none⟩ = some (.int .u8 (zs.getD k 0)) := hc k (by have := HZ.out; omega)
      have hbl : b < w.heap.size := World.block_lt_of_cell? w _ hck
      have hcr : wr.cell? ⟨b, off + k, none⟩ = some (.int .u8 (zs.getD k 0)) := (HB.out.cell (p := ⟨b, off + k, none⟩) hbl).trans hck
      have hxl : xs.length = len := by have := HO.out.1; omega
      have hcg : wr.cell? ⟨w.heap.size, k, none⟩ = some xs[k] := by rw [HO.out.cellAt k (by omega)]; exact List.getElem?_eq_getElem (by omega)
      have hfz : wr.frozen? ⟨w.heap.size, k, none⟩ = false := HO.out.frozenAt k
      obtain ⟨z, hzk⟩ : ∃ z, zs.getD k 0 = z := ⟨_, rfl⟩
      rw [hzk] at hcr
      have HZK : Hid (zs.getD k 0 = z) := hzk
      clear hc hck hzk
      have hsz : w.heap.size ≤ wr.heap.size := HB.out.size
      go_wp2
      go_roundw
      case rel =>
        obtain ⟨s1, s2⟩ := HO.out.stored k (.int .u8 z)
        refine ⟨k + 1, xs.set k (.int .u8 z), by go_num, by omega, s1, fun j hj => ?_, HB.out.grown s2 hsz (by intro q h; cases h; exact Nat.le_refl _)⟩
        by_cases hjk : j = k
        · subst hjk
          rw [List.getElem?_set_self (by omega), HZK.out]
        · rw [List.getElem?_set_ne (by omega)]
          exact HX.out j (by omega)
      case measure => simp [intOf]; omega
    · have hkl : k = len := by omega
      subst hkl
      have HD := data_of_own HZ.out HO.out HX.out
      go_wp2
      go_ret
      exact ⟨rfl, HD, HB.out⟩

theorem bytes_of_wf {zs : List Int} (n : Nat) (h : ∀ x ∈ zs, (Lit.int .u8 x).wf = true) : ∀ x ∈ zs.take n, 0 ≤ x ∧ x ≤ 255 :=
  fun x hx => bounds_u8 (h x (List.mem_of_mem_take hx))
def lenB (n : Nat) : Bool := decide (n ≤ 1048576)
set_option maxHeartbeats 400000 in
theorem bytes19_any (a : Option Addr) (n c : Nat) (a1 : Int) (w : World) (hn : n ≤ maxLen) :
    Calls Try.prog 19 #[.slice a n c, .int .i64 a1] w fun e w' => e = .returned (.bool (lenB n)) ∧ w' = w := by
  unfold maxLen at hn
  go_enter Try.func19, Try.ntmps19
  go_wp2
  all_goals
    go_ret
    exact ⟨ret_bool (by simp [lenB]; omega), rfl⟩
set_option maxHeartbeats 400000 in
theorem bytes15_any (a : Option Addr) (n c : Nat) (a1 a2 : Int) (w : World) (hn : n ≤ maxLen) :
    Calls Try.prog 15 #[.slice a n c, .int .i64 a1, .int .i64 a2] w fun e w' => e = .returned (.bool (lenB n)) ∧ w' = w := by
  unfold maxLen at hn
  go_enter Try.func15, Try.ntmps15
  go_wp2
  all_goals
    go_ret
    exact ⟨ret_bool (by simp [lenB]; omega), rfl⟩
/-- ZZBlockEnd at numbers that are written otherwise than as casts. -/
theorem zzEnd_i (a : Option Addr) (D : List Int) (n pos bs : Nat) (x y : Int) (hx : x = (pos : Int)) (hy : y = (bs : Int)) (w : World) (hD : D.length = n) (hs : pos + bs ≤ 9223372036854775807) (hn : n ≤ 1048576) (hd : Data w a D) (hb : ∀ x ∈ D, 0 ≤ x ∧ x ≤ 255) :
    Calls Try.prog 17 #[.slice a n n, .int .i64 x, .int .i64 y] w fun e w' => BEPost D (pos + bs) e ∧ Below w.heap.size w w' := by
  subst hx; subst hy; exact zzEnd_any a D n pos bs w hD hs hn hd hb
theorem BE_far {D : List Int} {t e : Nat} (h : BE D t e) (ht : D.length ≤ t) : e = D.length := by
  rcases h with ⟨_, h⟩ | ⟨h, _⟩
  · exact h
  · omega
theorem BE_near {D : List Int} {t e : Nat} (h : BE D t e) (ht : t < D.length) : t < e ∧ e ≤ D.length ∧ (e < D.length → D.getD (e - 1) 0 = 10) ∧ ∀ k, t ≤ k → k < e - 1 → D.getD k 0 ≠ 10 := by
  rcases h with ⟨h, _⟩ | ⟨_, h⟩
  · omega
  · exact h
end Go.Proofs.Qxb6602932a
