/-
  THE WALK OF FnAccesslogEnclosedReadsAnEscapedField, and the plain law under it.
-/
import Derived.Test.Qxb6602157aEsc
namespace Go.Proofs.Qxb6602157a
open Go.RowKit
set_option linter.unusedVariables false
set_option linter.unusedSimpArgs false

theorem esc_pre (c : ByteArray) (e : Int) (k : Nat) : ∀ m, ∃ t, escTo c e (k + m) = escTo c e k ++ t
  | 0 => ⟨[], by simp⟩
  | m + 1 => by
    obtain ⟨t, ht⟩ := esc_pre c e k m
    refine ⟨t ++ (if bt c (k + m) = e ∨ bt c (k + m) = 92 then [92, bt c (k + m)] else [bt c (k + m)]), ?_⟩
    rw [← Nat.add_assoc, escTo, ht, List.append_assoc]
/-- Inside the escaped field nothing is a hit, and the run before its end is even. -/
theorem esc_read {L c : ByteArray} {f : Nat} {e : Int} (he : e ≠ 92) (H : ∀ i, i < (escTo c e c.size).length → bt L (f + 1 + i) = (escTo c e c.size).getD i 0) :
    ∀ k, k ≤ c.size → run L f (f + 1 + (escTo c e k).length) % 2 = 0 ∧ ∀ x, f < x → x < f + 1 + (escTo c e k).length → hit L f e x = false
  | 0, _ => by
    refine ⟨?_, fun x a b => ?_⟩
    · show run L f (f + 1) % 2 = 0
      rw [run_first]
    · simp [escTo] at b; omega
  | k + 1, hk => by
    obtain ⟨h1, h2⟩ := esc_read he H k (by omega)
    obtain ⟨t, ht⟩ := esc_pre c e (k + 1) (c.size - (k + 1))
    rw [show k + 1 + (c.size - (k + 1)) = c.size by omega] at ht
    have hE : (escTo c e (k + 1)).length ≤ (escTo c e c.size).length := by rw [ht, List.length_append]; omega
    by_cases hb : bt c k = e ∨ bt c k = 92
    · have e2 := esc_two hb
      have l2 : (escTo c e (k + 1)).length = (escTo c e k).length + 1 + 1 := by rw [e2]; simp
      have v1 : bt L (f + 1 + (escTo c e k).length) = 92 := by
        rw [H _ (by omega), ht, e2]; simp [List.getD]
      have v2 : bt L (f + 1 + (escTo c e k).length + 1) = bt c k := by
        rw [Nat.add_assoc, H _ (by omega), ht, e2]; simp [List.getD]
      have r1 := run_bs (l := L) (f := f) (j := f + 1 + (escTo c e k).length) (by omega) v1
      rw [l2, ← Nat.add_assoc, ← Nat.add_assoc]
      refine ⟨?_, fun x a b => ?_⟩
      · by_cases hc : bt c k = 92
        · rw [run_bs (by omega) (by rw [v2]; exact hc), r1]; omega
        · rw [run_no (by rw [v2]; exact hc)]
      · by_cases hx : x < f + 1 + (escTo c e k).length
        · exact h2 x a hx
        · by_cases hx2 : x = f + 1 + (escTo c e k).length
          · subst hx2; exact no_hit (by rw [v1]; exact fun g => he g.symm)
          · have : x = f + 1 + (escTo c e k).length + 1 := by omega
            subst this
            unfold hit; rw [r1]; simp; omega
    · have e2 := esc_one hb
      have l2 : (escTo c e (k + 1)).length = (escTo c e k).length + 1 := by rw [e2]; simp
      have v1 : bt L (f + 1 + (escTo c e k).length) = bt c k := by
        rw [H _ (by omega), ht, e2]; simp [List.getD]
      rw [l2, ← Nat.add_assoc]
      refine ⟨?_, fun x a b => ?_⟩
      · rw [run_no (by rw [v1]; exact fun g => hb (Or.inr g))]
      · by_cases hx : x < f + 1 + (escTo c e k).length
        · exact h2 x a hx
        · have : x = f + 1 + (escTo c e k).length := by omega
          subst this
          exact no_hit (by rw [v1]; exact fun g => hb (Or.inl g))

theorem bt_app_l {A B : ByteArray} {k : Nat} (h : k < A.size) : bt (A ++ B) k = bt A k := by
  rw [bt_in h, bt_in (by rw [ByteArray.size_append]; omega), ByteArray.getElem_append_left h]
theorem bt_app_r {A B : ByteArray} {k : Nat} (h : A.size ≤ k) : bt (A ++ B) k = bt B (k - A.size) := by
  by_cases g : k < (A ++ B).size
  · have g' := g
    rw [ByteArray.size_append] at g'
    rw [bt_in g, bt_in (s := B) (by omega), ByteArray.getElem_append_right h]
  · have g' := g
    rw [ByteArray.size_append] at g'
    rw [bt_out (by omega), bt_out (s := B) (by omega)]
theorem ba_ext {A B : ByteArray} (h1 : A.size = B.size) (h2 : ∀ k, k < A.size → bt A k = bt B k) : A = B := by
  apply ByteArray.ext
  apply Array.ext
  · exact h1
  · intro i ha hb
    have := h2 i ha
    rw [bt_in (s := A) ha, bt_in (s := B) hb] at this
    apply UInt8.toNat_inj.1
    exact Int.ofNat_inj.1 this
theorem bt_nums {E : List Int} (hE : ∀ x ∈ E, 0 ≤ x ∧ x ≤ 255) {i : Nat} (h : i < E.length) : bt (strOfNums E) i = E.getD i 0 := by
  rw [bt_in (by rw [strOfNums_size]; exact h)]
  have e1 : (strOfNums E)[i]'(by rw [strOfNums_size]; exact h) = UInt8.ofNat (E[i].toNat) := by
    show (strOfNums E).data[i]'_ = _
    simp [strOfNums]
  rw [e1, UInt8.toNat_ofNat']
  have := hE E[i] (List.getElem_mem h)
  simp [List.getD, List.getElem?_eq_getElem h]
  omega
theorem esc_byte (c : ByteArray) (e : Int) : ∀ k, ∀ x ∈ escTo c e k, 0 ≤ x ∧ x ≤ 255
  | 0, x, h => by simp [escTo] at h
  | k + 1, x, h => by
    rw [escTo, List.mem_append] at h
    rcases h with h | h
    · exact esc_byte c e k x h
    · have hb := bt_lo c k
      split at h
      · simp at h; rcases h with h | h <;> omega
      · simp at h; omega

/-- The line: what stands where. -/
theorem field_law {p c q : ByteArray} {o e : Int} (o0 : 0 ≤ o) (o1 : o ≤ 255) (e0 : 0 ≤ e) (e1 : e ≤ 255) (he : e ≠ 92) {X S Y : ByteArray} (hX : X = strOfNums [o]) (hS : S = strOfNums (escTo c e c.size)) (hY : Y = strOfNums [e, 32]) :
    EncR (p ++ X ++ S ++ Y ++ q) p.size o e (some (p.size + 1 + S.size)) ∧ aftB (p ++ X ++ S ++ Y ++ q) (p.size + 1 + S.size + 1) = true ∧ (p ++ X ++ S ++ Y ++ q).extract (p.size + 1) (p.size + 1 + S.size) = S := by
  have zX : X.size = 1 := by rw [hX, strOfNums_size]; rfl
  have zY : Y.size = 2 := by rw [hY, strOfNums_size]; rfl
  have zS : S.size = (escTo c e c.size).length := by rw [hS, strOfNums_size]
  have zL : (p ++ X ++ S ++ Y ++ q).size = p.size + 1 + S.size + 2 + q.size := by
    simp only [ByteArray.size_append, zX, zY]
  have bX : bt (p ++ X ++ S ++ Y ++ q) p.size = o := by
    rw [bt_app_l (by simp only [ByteArray.size_append, zX]; omega), bt_app_l (by simp only [ByteArray.size_append, zX]; omega), bt_app_l (by simp only [ByteArray.size_append, zX]; omega), bt_app_r (Nat.le_refl _), hX, bt_nums (by simp; omega) (by simp)]
    simp
  have bS : ∀ i, i < S.size → bt (p ++ X ++ S ++ Y ++ q) (p.size + 1 + i) = bt S i := by
    intro i hi
    rw [bt_app_l (by simp only [ByteArray.size_append, zX]; omega), bt_app_l (by simp only [ByteArray.size_append, zX]; omega), bt_app_r (by simp only [ByteArray.size_append, zX]; omega)]
    simp only [ByteArray.size_append, zX]
    rw [show p.size + 1 + i - (p.size + 1) = i by omega]
  have bY : ∀ i, i < 2 → bt (p ++ X ++ S ++ Y ++ q) (p.size + 1 + S.size + i) = [e, 32].getD i 0 := by
    intro i hi
    rw [bt_app_l (by simp only [ByteArray.size_append, zX, zY]; omega), bt_app_r (by simp only [ByteArray.size_append, zX]; omega)]
    simp only [ByteArray.size_append, zX]
    rw [show p.size + 1 + S.size + i - (p.size + 1 + S.size) = i by omega, hY, bt_nums (by simp; omega) (by simpa using hi)]
  have H : ∀ i, i < (escTo c e c.size).length → bt (p ++ X ++ S ++ Y ++ q) (p.size + 1 + i) = (escTo c e c.size).getD i 0 := by
    intro i hi
    rw [bS i (by omega), hS, bt_nums (esc_byte c e c.size) hi]
  obtain ⟨r1, r2⟩ := esc_read he H c.size (Nat.le_refl _)
  rw [← zS] at r1 r2
  refine ⟨enc_some (by omega) bX (by omega) ?_ r2 (by omega) rfl r1, ?_, ?_⟩
  · have := bY 0 (by omega)
    simpa using this
  · have := bY 1 (by omega)
    unfold aftB
    rw [this]; simp
  · apply ba_ext
    · rw [ByteArray.size_extract, zL]; omega
    · intro k hk
      rw [ByteArray.size_extract, zL] at hk
      rw [bt_extract _ _ _ _ (by omega) (by omega), bS k (by omega)]

theorem encV_some {L S : ByteArray} {f j : Nat} {n : Int} (f2 : aftB L (j + 1) = true) (f3 : L.extract (f + 1) j = S) (hn : n = (j : Int) + 2) : encV L f (some j) = .tuple #[.string S, .int .i64 n, .bool true] := by
  show Value.tuple #[.string (L.extract (f + 1) j), .int .i64 (nextI L (j + 1)), .bool (aftB L (j + 1))] = _
  have e : ((nextI L (j + 1) : Nat) : Int) = n := by unfold nextI; rw [if_pos f2]; omega
  rw [e, f2, f3]

set_option maxHeartbeats 400000 in
theorem bytes21_any (p s q : ByteArray) (a1 a2 : Int) (w : World) (hp : p.size ≤ maxLen) (hs : s.size ≤ maxLen) (hq : q.size ≤ maxLen) :
    Calls Try.prog 21 #[.string p, .string s, .string q, .int .u8 a1, .int .u8 a2] w fun e w' => e = .returned (.bool (lenB (p.size + s.size + q.size))) ∧ w' = w := by
  unfold maxLen at hp hs hq
  go_enter Try.func21, Try.ntmps21
  go_wp2
  all_goals
    go_ret
    exact ⟨ret_bool (by simp [lenB]; omega), rfl⟩

namespace fnAccesslogEnclosedReadsAnEscapedField
set_option maxHeartbeats 1000000 in
theorem walk (a0 : ByteArray) (a1 : ByteArray) (a2 : ByteArray) (a3 : Int) (a4 : Int) (w0 : a0.size ≤ maxLen) (w1 : a1.size ≤ maxLen) (w2 : a2.size ≤ maxLen) (w3 : (Lit.int .u8 a3).wf = true) (w4 : (Lit.int .u8 a4).wf = true) (w : World) :
    Calls Try.prog 8 #[.string a0, .string a1, .string a2, .int .u8 a3, .int .u8 a4] w fun e w' => e = .returned (.bool true) ∧ Below w.heap.size w w' := by
  have b3 := bounds_u8 w3
  have b4 := bounds_u8 w4
  by_cases hB : lenB (a0.size + a1.size + a2.size) = true
  · have hb : a0.size + a1.size + a2.size ≤ 1048576 := by simpa [lenB] using hB
    by_cases h1 : a0.size ≤ 262144
    · by_cases h2 : a1.size ≤ 262144
      · by_cases h3 : a2.size ≤ 262144
        · by_cases h4 : (a4 == 92) = true
          · go_enter Try.func8, Try.ntmps8
            go_wp2_with (go_at_call 21; refine (bytes21_any a0 a1 a2 a3 a4 _ w0 w1 w2).mono ?_; rintro e w' ⟨rfl, hw⟩; obtain rfl := hw.symm; clear hw)
            go_ret
            exact ⟨rfl, Below.refl _ _⟩
          · have h4' : (a4 == 92) = false := by simpa using h4
            clear h4
            go_enter Try.func8, Try.ntmps8
            go_wp2_with (go_at_call 21; refine (bytes21_any a0 a1 a2 a3 a4 _ w0 w1 w2).mono ?_; rintro e w' ⟨rfl, hw⟩; obtain rfl := hw.symm; clear hw)
            refine (escape_any a1 a4 _ (by omega)).mono ?_
            rintro e wE ⟨rfl, hbE⟩
            have HBE : Hid (Below w.heap.size w wE) := hbE
            clear hbE
            have hlen := esc_len a1 a4 a1.size
            have hszE : (strOfNums (escTo a1 a4 a1.size)).size = (escTo a1 a4 a1.size).length := strOfNums_size _
            obtain ⟨S, hS⟩ : ∃ S, S = strOfNums (escTo a1 a4 a1.size) := ⟨_, rfl⟩
            rw [← hS] at hszE ⊢
            have hS2 : S.size ≤ 524288 := by omega
            have HS : Hid (S = strOfNums (escTo a1 a4 a1.size)) := hS
            clear hS hszE hlen
            obtain ⟨X, hX⟩ : ∃ X, X = strOfNums [a3] := ⟨_, rfl⟩
            obtain ⟨Y, hY⟩ : ∃ Y, Y = strOfNums [a4, 32] := ⟨_, rfl⟩
            have zX : X.size = 1 := by rw [hX, strOfNums_size]; rfl
            have zY : Y.size = 2 := by rw [hY, strOfNums_size]; rfl
            have hc1 := run_convert_bytes_arg (P := Try.prog) (wE.alloc (.cells #[.int .u8 a3] 5)) 28 5 Try.underlying28 Try.underlying5 wE.heap.size 0 1 1 [a3] rfl (by
              intro i hi
              obtain rfl : i = 0 := by omega
              simp) 9 Try.underlying9
            have hc2 := run_convert_bytes_arg (P := Try.prog) ((wE.alloc (.cells #[.int .u8 a3] 5)).alloc (.cells #[.int .u8 a4, .int .u8 32] 5)) 28 5 Try.underlying28 Try.underlying5 (wE.heap.size + 1) 0 2 2 [a4, 32] rfl (by
              intro i hi
              rw [World.cell?_alloc_at _ _ _ _ (by simp)]
              match i, hi with
              | 0, _ => rfl
              | 1, _ => rfl) 9 Try.underlying9
            rw [← hX] at hc1
            rw [← hY] at hc2
            have HF : Hid _ := field_law (p := a0) (c := a1) (q := a2) b3.1 b3.2 b4.1 b4.2 (by simpa using h4') hX HS.out hY
            clear hX hY
            go_wp2_with fail
            refine (zzEnc_any (a0 ++ X ++ S ++ Y ++ a2) a0.size a3 a4 _ (by simp only [ByteArray.size_append, zX, zY]; omega) (by omega) b3.1 b3.2 b4.1 b4.2).mono ?_
            rintro e w' ⟨⟨r, rfl, hr⟩, hw⟩
            obtain rfl := hw.symm
            clear hw
            obtain ⟨f1, f2, f3⟩ := HF.out
            have hu := EncR_uniq hr f1
            subst hu
            clear hr f1
            have hv : encV (a0 ++ X ++ S ++ Y ++ a2) a0.size (some (a0.size + 1 + S.size)) = .tuple #[.string S, .int .i64 ((a0.size : Int) + S.size + 3), .bool true] :=
              encV_some f2 f3 (by omega)
            clear f2 f3 HF
            rw [hv]
            clear hv
            go_wp2_with fail
            go_ret
            exact ⟨ret_bool (by simp), ((HBE.out.alloc HBE.out.size _).alloc (by have := HBE.out.size; simp; omega) _)⟩
        · go_enter Try.func8, Try.ntmps8
          go_wp2_with (go_at_call 21; refine (bytes21_any a0 a1 a2 a3 a4 _ w0 w1 w2).mono ?_; rintro e w' ⟨rfl, hw⟩; obtain rfl := hw.symm; clear hw)
          go_ret
          exact ⟨rfl, Below.refl _ _⟩
      · go_enter Try.func8, Try.ntmps8
        go_wp2_with (go_at_call 21; refine (bytes21_any a0 a1 a2 a3 a4 _ w0 w1 w2).mono ?_; rintro e w' ⟨rfl, hw⟩; obtain rfl := hw.symm; clear hw)
        go_ret
        exact ⟨rfl, Below.refl _ _⟩
    · go_enter Try.func8, Try.ntmps8
      go_wp2_with (go_at_call 21; refine (bytes21_any a0 a1 a2 a3 a4 _ w0 w1 w2).mono ?_; rintro e w' ⟨rfl, hw⟩; obtain rfl := hw.symm; clear hw)
      go_ret
      exact ⟨rfl, Below.refl _ _⟩
  · have hB' : lenB (a0.size + a1.size + a2.size) = false := by simpa using hB
    clear hB
    go_enter Try.func8, Try.ntmps8
    go_wp2_with (go_at_call 21; refine (bytes21_any a0 a1 a2 a3 a4 _ w0 w1 w2).mono ?_; rintro e w' ⟨rfl, hw⟩; obtain rfl := hw.symm; clear hw)
    go_ret
    exact ⟨rfl, Below.refl _ _⟩
end fnAccesslogEnclosedReadsAnEscapedField
end Go.Proofs.Qxb6602157a
