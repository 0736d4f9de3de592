/-
  THE WALK OF plainEnd: it returns an e with 'PE s i flow e'.
-/
import Derived.Test.Qxb6601822aLeaf
namespace Go.Proofs.Qxb6601822a
open Go.RowKit
set_option linter.unusedVariables false
set_option linter.unusedSimpArgs false

/-- What holds at the outer loop's head: the walk stands at k, the scalar's end so far is m. -/
def Inv (s : ByteArray) (i : Nat) (flow : Bool) (k m : Nat) : Prop :=
  i ≤ m ∧ m ≤ k ∧ (∀ x, i ≤ x → x < k → stopB s i x flow = false) ∧ (∀ x, m ≤ x → x < k → bt s x = 32) ∧ (m = i ∨ bt s (m - 1) ≠ 32) ∧ (m < k → bt s k ≠ 35)

theorem inv_start (s : ByteArray) (i : Nat) (flow : Bool) : Inv s i flow i i :=
  ⟨by omega, by omega, fun x _ _ => by omega, fun x _ _ => by omega, Or.inl rfl, fun _ => by omega⟩
theorem inv_stop {s : ByteArray} {i : Nat} {flow : Bool} {k m : Nat} (h : Inv s i flow k m) (hs : stopB s i k flow = true) : PE s i flow m := by
  obtain ⟨a, b, c, d, e, f⟩ := h
  exact ⟨k, by omega, c, hs, a, b, d, e⟩
theorem not_stop_space {s : ByteArray} {i x : Nat} {flow : Bool} (h : bt s x = 32) : stopB s i x flow = false := by
  simp [stopB, colB, hashB, h, endsB, flowB]
theorem inv_spaces {s : ByteArray} {i : Nat} {flow : Bool} {k m k' : Nat} (h : Inv s i flow k m) (hk : k ≤ k') (hsp : ∀ x, k ≤ x → x < k' → bt s x = 32) (h' : bt s k' ≠ 35) : Inv s i flow k' m := by
  obtain ⟨a, b, c, d, e, f⟩ := h
  refine ⟨a, by omega, ?_, ?_, e, fun _ => h'⟩
  · intro x hx hy
    by_cases hxk : x < k
    · exact c x hx hxk
    · exact not_stop_space (hsp x (by omega) hy)
  · intro x hx hy
    by_cases hxk : x < k
    · exact d x hx hxk
    · exact hsp x (by omega) hy
theorem inv_hash {s : ByteArray} {i : Nat} {flow : Bool} {k m k' : Nat} (h : Inv s i flow k m) (hk : k < k') (hsp : ∀ x, k ≤ x → x < k' → bt s x = 32) (h' : bt s k' = 35) : PE s i flow m := by
  obtain ⟨a, b, c, d, e, f⟩ := h
  refine ⟨k', by omega, ?_, ?_, a, by omega, ?_, e⟩
  · intro x hx hy
    by_cases hxk : x < k
    · exact c x hx hxk
    · exact not_stop_space (hsp x (by omega) hy)
  · have := hsp (k' - 1) (by omega) (by omega)
    simp [stopB, hashB, h', this]; right; right; right; omega
  · intro x hx hy
    by_cases hxk : x < k
    · exact d x hx hxk
    · exact hsp x (by omega) hy
theorem inv_next {s : ByteArray} {i : Nat} {flow : Bool} {k m : Nat} (h : Inv s i flow k m) (h32 : bt s k ≠ 32) (he : endsB (bt s k) = false) (hc : colB s k = false) (hf : (flow && flowB (bt s k)) = false) : Inv s i flow (k + 1) (k + 1) := by
  obtain ⟨a, b, c, d, e, f⟩ := h
  refine ⟨by omega, by omega, ?_, fun x _ _ => by omega, Or.inr (by simpa using h32), fun _ => by omega⟩
  intro x hx hy
  by_cases hxk : x < k
  · exact c x hx hxk
  · have : x = k := by omega
    subst this
    have hh : hashB s i x = false := by
      by_cases g : bt s x = 35
      · have hm : m = x := by
          by_cases g' : m < x
          · exact absurd g (f g')
          · omega
        subst hm
        rcases e with e | e
        · simp [hashB, e]
        · simp [hashB, e]
      · simp [hashB, g]
    simp only [stopB, he, hc, hf, hh, Bool.or_false]

set_option maxHeartbeats 1000000 in
theorem plainEnd_any (s : ByteArray) (i : Nat) (flow : Bool) (b : Nat) (w : World) (hs : s.size ≤ 1048576) (hi : i ≤ 9223372036854775807) (hc : w.cell? ⟨b, 0, none⟩ = some (.string s)) :
    Calls Try.prog 24 #[.pointer (some ⟨b, 0, none⟩), .int .i64 i, .bool flow] w fun e w' => ∃ n : Nat, e = .returned (.int .i64 n) ∧ PE s i flow n ∧ w' = w := by
  go_enter Try.func24, Try.ntmps24
  go_wp2
  go_loop [1, 7] (fun p q => ∃ k m : Nat, p = .int .i64 k ∧ q = .int .i64 m ∧ k ≤ 9223372036854775807 ∧ Inv s i flow k m) (fun p _ => s.size - (intOf p).toNat)
  case atStart => exact ⟨i, i, rfl, rfl, hi, inv_start s i flow⟩
  case round =>
    obtain ⟨k, m, rfl, rfl, hk, hinv⟩ := hrel
    have HI : Hid (Inv s i flow k m) := hinv
    clear hinv
    have hb0 := bt_lo s k
    by_cases h32 : (bt s k == 32) = true
    · have hlt : k < s.size := lt_of_bt (by simp at h32; omega)
      have H32 : Hid (bt s k = 32) := (by simpa using h32 : bt s k = 32)
      go_wp2_with fail
      refine (at_any s k b _ hs hk hc).mono ?_
      rintro e w' ⟨rfl, rfl⟩
      go_wp2_with fail
      go_loop [1] (fun p => ∃ k' : Nat, p = .int .i64 k' ∧ k < k' ∧ k' ≤ s.size ∧ Hid (∀ x, k ≤ x → x < k' → bt s x = 32)) (fun p => s.size - (intOf p).toNat)
      case atStart =>
        exact ⟨k + 1, by go_num, by omega, by omega, fun x h1 h2 => by have : x = k := by omega
                                                                       subst this; exact H32.out⟩
      case round =>
        obtain ⟨k', rfl, hkk, hks, HS⟩ := hrel
        by_cases h' : (bt s k' == 32) = true
        · have hlt' : k' < s.size := lt_of_bt (by simp at h'; omega)
          go_wp2_with fail
          refine (at_any s k' b _ hs (by omega) hc).mono ?_
          rintro e w' ⟨rfl, rfl⟩
          go_wp2_with fail
          go_round
          case rel =>
            refine ⟨k' + 1, by go_num, by omega, by omega, fun x h1 h2 => ?_⟩
            by_cases hx : x < k'
            · exact HS.out x h1 hx
            · have : x = k' := by omega
              subst this; simpa using h'
          case measure => simp [intOf]; omega
        · have h'' : (bt s k' == 32) = false := by simpa using h'
          clear h'
          by_cases h35 : (bt s k' == 35) = true
          · go_wp2_with fail
            refine (at_any s k' b _ hs (by omega) hc).mono ?_
            rintro e w' ⟨rfl, rfl⟩
            go_wp2_with fail
            refine (at_any s k' b _ hs (by omega) hc).mono ?_
            rintro e w' ⟨rfl, rfl⟩
            go_wp2_with fail
            go_ret
            exact ⟨m, rfl, inv_hash HI.out hkk HS.out (by simpa using h35), rfl⟩
          · have h35' : (bt s k' == 35) = false := by simpa using h35
            go_wp2_with fail
            refine (at_any s k' b _ hs (by omega) hc).mono ?_
            rintro e w' ⟨rfl, rfl⟩
            go_wp2_with fail
            refine (at_any s k' b _ hs (by omega) hc).mono ?_
            rintro e w' ⟨rfl, rfl⟩
            go_wp2_with fail
            go_round
            case rel => exact ⟨k', m, rfl, rfl, by omega, inv_spaces HI.out (by omega) HS.out (by simpa using h35')⟩
            case measure => simp [intOf]; omega
    · have h32' : (bt s k == 32) = false := by simpa using h32
      clear h32
      have hpe : stopB s i k flow = true → PE s i flow m := fun h => inv_stop HI.out h
      have HP : Hid (stopB s i k flow = true → PE s i flow m) := hpe
      clear hpe
      by_cases he : endsB (bt s k) = true
      · have HE : Hid (stopB s i k flow = true) := (by unfold stopB; rw [he]; rfl : stopB s i k flow = true)
        go_wp2_with (first | (go_at_call 28; refine (at_any s k b _ hs hk hc).mono ?_; rintro e w' ⟨rfl, rfl⟩) | (go_at_call 32; refine (ends_any _ _).mono ?_; rintro e w' ⟨rfl, rfl⟩))
        go_ret
        exact ⟨m, rfl, HP.out HE.out, rfl⟩
      · have he' : endsB (bt s k) = false := by simpa using he
        clear he
        have hlt : k < s.size := lt_of_ends he'
        have hb1 := bt_lo s (k + 1)
        by_cases hcol : (bt s k == 58) = true
        · by_cases hbl : blankB (bt s (k + 1)) = true
          · have HE : Hid (stopB s i k flow = true) := (by unfold stopB colB; rw [hcol, hbl]; simp : stopB s i k flow = true)
            go_wp2_with fail
            refine (at_any s k b _ hs hk hc).mono ?_
            rintro e w' ⟨rfl, rfl⟩
            go_wp2_with (go_at_call 32; refine (ends_any _ _).mono ?_; rintro e w' ⟨rfl, rfl⟩)
            refine (at_i s (k + 1) _ (by omega) b _ hs (by omega) hc).mono ?_
            rintro e w' ⟨rfl, rfl⟩
            go_wp2_with (go_at_call 33; refine (blank_any _ _).mono ?_; rintro e w' ⟨rfl, rfl⟩)
            go_ret
            exact ⟨m, rfl, HP.out HE.out, rfl⟩
          · have hbl' : blankB (bt s (k + 1)) = false := by simpa using hbl
            clear hbl
            have HC : Hid (colB s k = false) := (by unfold colB; rw [hbl']; simp : colB s k = false)
            have H32 : Hid (bt s k ≠ 32) := (by simpa using h32' : bt s k ≠ 32)
            cases flow with
            | false =>
              · have HN : Hid (Inv s i false (k + 1) (k + 1)) := inv_next HI.out H32.out he' HC.out rfl
                go_wp2_with fail
                refine (at_any s k b _ hs hk hc).mono ?_
                rintro e w' ⟨rfl, rfl⟩
                go_wp2_with (go_at_call 32; refine (ends_any _ _).mono ?_; rintro e w' ⟨rfl, rfl⟩)
                refine (at_i s (k + 1) _ (by omega) b _ hs (by omega) hc).mono ?_
                rintro e w' ⟨rfl, rfl⟩
                go_wp2_with (go_at_call 33; refine (blank_any _ _).mono ?_; rintro e w' ⟨rfl, rfl⟩)
                go_round
                case rel => exact ⟨k + 1, k + 1, by go_num, by go_num, by omega, HN.out⟩
                case measure => simp [intOf]; omega
            | true =>
              by_cases hfl : flowB (bt s k) = true
              · have HE : Hid (stopB s i k true = true) := (flow_stop hfl : stopB s i k true = true)
                go_wp2_with fail
                refine (at_any s k b _ hs hk hc).mono ?_
                rintro e w' ⟨rfl, rfl⟩
                go_wp2_with (go_at_call 32; refine (ends_any _ _).mono ?_; rintro e w' ⟨rfl, rfl⟩)
                refine (at_i s (k + 1) _ (by omega) b _ hs (by omega) hc).mono ?_
                rintro e w' ⟨rfl, rfl⟩
                go_wp2_with (go_at_call 33; refine (blank_any _ _).mono ?_; rintro e w' ⟨rfl, rfl⟩)
                refine (index_flow (bt s k) hb0.1 hb0.2 _).mono ?_
                rintro e w' ⟨n, rfl, hn, rfl⟩
                have hn' : 0 ≤ n := by rw [hfl] at hn; simpa using hn
                clear hn
                go_wp2_with fail
                go_ret
                exact ⟨m, rfl, HP.out HE.out, rfl⟩
              · have hfl' : flowB (bt s k) = false := by simpa using hfl
                clear hfl
                have HN : Hid (Inv s i true (k + 1) (k + 1)) := inv_next HI.out H32.out he' HC.out (by simp [hfl'])
                go_wp2_with fail
                refine (at_any s k b _ hs hk hc).mono ?_
                rintro e w' ⟨rfl, rfl⟩
                go_wp2_with (go_at_call 32; refine (ends_any _ _).mono ?_; rintro e w' ⟨rfl, rfl⟩)
                refine (at_i s (k + 1) _ (by omega) b _ hs (by omega) hc).mono ?_
                rintro e w' ⟨rfl, rfl⟩
                go_wp2_with (go_at_call 33; refine (blank_any _ _).mono ?_; rintro e w' ⟨rfl, rfl⟩)
                refine (index_flow (bt s k) hb0.1 hb0.2 _).mono ?_
                rintro e w' ⟨n, rfl, hn, rfl⟩
                have hn' : n < 0 := by rw [hfl'] at hn; simpa using hn
                clear hn
                go_wp2_with fail
                go_round
                case rel => exact ⟨k + 1, k + 1, by go_num, by go_num, by omega, HN.out⟩
                case measure => simp [intOf]; omega
        · have hcol' : (bt s k == 58) = false := by simpa using hcol
          clear hcol
          have HC : Hid (colB s k = false) := (by unfold colB; rw [hcol']; simp : colB s k = false)
          have H32 : Hid (bt s k ≠ 32) := (by simpa using h32' : bt s k ≠ 32)
          cases flow with
          | false =>
            · have HN : Hid (Inv s i false (k + 1) (k + 1)) := inv_next HI.out H32.out he' HC.out rfl
              go_wp2_with (first | (go_at_call 28; refine (at_any s k b _ hs hk hc).mono ?_; rintro e w' ⟨rfl, rfl⟩) | (go_at_call 32; refine (ends_any _ _).mono ?_; rintro e w' ⟨rfl, rfl⟩))
              go_round
              case rel => exact ⟨k + 1, k + 1, by go_num, by go_num, by omega, HN.out⟩
              case measure => simp [intOf]; omega
          | true =>
            by_cases hfl : flowB (bt s k) = true
            · have HE : Hid (stopB s i k true = true) := (flow_stop hfl : stopB s i k true = true)
              go_wp2_with (first | (go_at_call 28; refine (at_any s k b _ hs hk hc).mono ?_; rintro e w' ⟨rfl, rfl⟩) | (go_at_call 32; refine (ends_any _ _).mono ?_; rintro e w' ⟨rfl, rfl⟩))
              refine (index_flow (bt s k) hb0.1 hb0.2 _).mono ?_
              rintro e w' ⟨n, rfl, hn, rfl⟩
              have hn' : 0 ≤ n := by rw [hfl] at hn; simpa using hn
              clear hn
              go_wp2_with fail
              go_ret
              exact ⟨m, rfl, HP.out HE.out, rfl⟩
            · have hfl' : flowB (bt s k) = false := by simpa using hfl
              clear hfl
              have HN : Hid (Inv s i true (k + 1) (k + 1)) := inv_next HI.out H32.out he' HC.out (by simp [hfl'])
              go_wp2_with (first | (go_at_call 28; refine (at_any s k b _ hs hk hc).mono ?_; rintro e w' ⟨rfl, rfl⟩) | (go_at_call 32; refine (ends_any _ _).mono ?_; rintro e w' ⟨rfl, rfl⟩))
              refine (index_flow (bt s k) hb0.1 hb0.2 _).mono ?_
              rintro e w' ⟨n, rfl, hn, rfl⟩
              have hn' : n < 0 := by rw [hfl'] at hn; simpa using hn
              clear hn
              go_wp2_with fail
              go_round
              case rel => exact ⟨k + 1, k + 1, by go_num, by go_num, by omega, HN.out⟩
              case measure => simp [intOf]; omega
end Go.Proofs.Qxb6601822a
