/-
  THE WALKS OF isToken, of the thin aliases, and of the law itself.
-/
import Derived.Test.Qxb6003801aPar
import Derived.Lib.Strings
namespace Go.Proofs.Qxb6003801a
open Go.RowKit
set_option linter.unusedVariables false

theorem ext_get (s : ByteArray) (p q j : Nat) (h : j < (s.extract p q).size) (h2 : p + j < s.size) : (s.extract p q)[j]'h = s[p + j]'h2 := ByteArray.getElem_extract h
theorem ext_size (s : ByteArray) (p q : Nat) (h : q ≤ s.size) : (s.extract p q).size = q - p := by
  rw [ByteArray.size_extract]; omega
theorem ext_all (s : ByteArray) : s.extract 0 s.size = s := ByteArray.extract_zero_size

theorem not_empty (s : ByteArray) (h0 : 0 < s.size) : s.toList.isEmpty = false := by
  cases hl : s.toList with
  | nil =>
    exfalso
    rw [Lib.toList_data] at hl
    have : s.size = 0 := by rw [Lib.size_eq, hl]; rfl
    omega
  | cons _ _ => rfl

set_option maxRecDepth 10000 in
set_option maxHeartbeats 4000000 in
theorem isTok0 (s : ByteArray) (w : World) (h0 : 0 < s.size) (hs : s.size ≤ 2000000) (hf : alp ((s[0]'h0).toNat : Int) ∨ ((s[0]'h0).toNat : Int) = 42) (hall : ∀ j, 0 < j → tokAt s j) :
    Calls Try.prog 24 #[.string s] w (Says w true) := by
  have HA : Hid (∀ j, 0 < j → tokAt s j) := hall
  have hemp := not_empty s h0
  clear hall
  by_cases ha : alp ((s[0]'h0).toNat : Int)
  · have HF : Hid (alp ((s[0]'h0).toNat : Int)) := ha
    clear hf ha
    go_enter Try.func24, Try.ntmps24
    go_wp2_with (go_at_call 28; refine (alp_yes _ _ HF.out).mono ?_; rintro e w' ⟨rfl, rfl⟩)
    go_loop [3] (fun v => ∃ i : Nat, 1 ≤ i ∧ i ≤ s.size ∧ v = .int .i64 (i : Int)) (fun v => s.size - (intOf v).toNat)
    case atStart => exact ⟨1, by omega, by omega, rfl⟩
    case round =>
      obtain ⟨i, hi0, hi1, rfl⟩ := hrel
      by_cases hi : i < s.size
      · have hby := u8_le (s[i]'hi)
        by_cases ht : tch ((s[i]'hi).toNat : Int)
        · have HT : Hid (tch ((s[i]'hi).toNat : Int)) := ht
          clear ht
          go_wp2_with (go_at_call 26; refine (tch_yes _ _ (by omega) (by omega) HT.out).mono ?_; rintro e w' ⟨rfl, rfl⟩)
          go_round
          case rel => exact ⟨i + 1, by omega, by omega, by go_num⟩
          case measure => simp [intOf]; omega
        · have HT : Hid (¬ tch ((s[i]'hi).toNat : Int)) := ht
          have hq : ((s[i]'hi).toNat : Int) = 58 ∨ ((s[i]'hi).toNat : Int) = 47 := by
            rcases HA.out i (by omega) hi with h | h
            · exact absurd h ht
            · exact h
          clear ht
          by_cases h58 : ((s[i]'hi).toNat : Int) = 58
          · have q1 : (((s[i]'hi).toNat : Int) != 58) = false := by simpa using h58
            clear h58 hq
            go_wp2_with (go_at_call 26; refine (tch_no _ _ (by omega) (by omega) HT.out).mono ?_; rintro e w' ⟨rfl, rfl⟩)
            go_round
            case rel => exact ⟨i + 1, by omega, by omega, by go_num⟩
            case measure => simp [intOf]; omega
          · have q1 : (((s[i]'hi).toNat : Int) != 58) = true := by simpa using h58
            have q2 : (((s[i]'hi).toNat : Int) != 47) = false := by simpa using (hq.resolve_left h58)
            clear h58 hq
            go_wp2_with (go_at_call 26; refine (tch_no _ _ (by omega) (by omega) HT.out).mono ?_; rintro e w' ⟨rfl, rfl⟩)
            go_round
            case rel => exact ⟨i + 1, by omega, by omega, by go_num⟩
            case measure => simp [intOf]; omega
      · go_wp2_with fail
        go_ret
        exact ⟨rfl, rfl⟩
  · have HF : Hid (¬ alp ((s[0]'h0).toNat : Int)) := ha
    have h42 : (((s[0]'h0).toNat : Int) != 42) = false := by simpa using hf.resolve_left ha
    clear hf ha
    go_enter Try.func24, Try.ntmps24
    go_wp2_with (go_at_call 28; refine (alp_no _ _ HF.out).mono ?_; rintro e w' ⟨rfl, rfl⟩)
    go_loop [3] (fun v => ∃ i : Nat, 1 ≤ i ∧ i ≤ s.size ∧ v = .int .i64 (i : Int)) (fun v => s.size - (intOf v).toNat)
    case atStart => exact ⟨1, by omega, by omega, rfl⟩
    case round =>
      obtain ⟨i, hi0, hi1, rfl⟩ := hrel
      by_cases hi : i < s.size
      · have hby := u8_le (s[i]'hi)
        by_cases ht : tch ((s[i]'hi).toNat : Int)
        · have HT : Hid (tch ((s[i]'hi).toNat : Int)) := ht
          clear ht
          go_wp2_with (go_at_call 26; refine (tch_yes _ _ (by omega) (by omega) HT.out).mono ?_; rintro e w' ⟨rfl, rfl⟩)
          go_round
          case rel => exact ⟨i + 1, by omega, by omega, by go_num⟩
          case measure => simp [intOf]; omega
        · have HT : Hid (¬ tch ((s[i]'hi).toNat : Int)) := ht
          have hq : ((s[i]'hi).toNat : Int) = 58 ∨ ((s[i]'hi).toNat : Int) = 47 := by
            rcases HA.out i (by omega) hi with h | h
            · exact absurd h ht
            · exact h
          clear ht
          by_cases h58 : ((s[i]'hi).toNat : Int) = 58
          · have q1 : (((s[i]'hi).toNat : Int) != 58) = false := by simpa using h58
            clear h58 hq
            go_wp2_with (go_at_call 26; refine (tch_no _ _ (by omega) (by omega) HT.out).mono ?_; rintro e w' ⟨rfl, rfl⟩)
            go_round
            case rel => exact ⟨i + 1, by omega, by omega, by go_num⟩
            case measure => simp [intOf]; omega
          · have q1 : (((s[i]'hi).toNat : Int) != 58) = true := by simpa using h58
            have q2 : (((s[i]'hi).toNat : Int) != 47) = false := by simpa using (hq.resolve_left h58)
            clear h58 hq
            go_wp2_with (go_at_call 26; refine (tch_no _ _ (by omega) (by omega) HT.out).mono ?_; rintro e w' ⟨rfl, rfl⟩)
            go_round
            case rel => exact ⟨i + 1, by omega, by omega, by go_num⟩
            case measure => simp [intOf]; omega
      · go_wp2_with fail
        go_ret
        exact ⟨rfl, rfl⟩

set_option maxHeartbeats 400000 in
theorem zzIs0 (s : ByteArray) (w : World) (h0 : 0 < s.size) (hs : s.size ≤ 2000000) (hf : alp ((s[0]'h0).toNat : Int) ∨ ((s[0]'h0).toNat : Int) = 42) (hall : ∀ j, 0 < j → tokAt s j) :
    Calls Try.prog 12 #[.string s] w (Says w true) := by
  have H : Hid ((alp ((s[0]'h0).toNat : Int) ∨ ((s[0]'h0).toNat : Int) = 42) ∧ ∀ j, 0 < j → tokAt s j) := ⟨hf, hall⟩
  clear hf hall
  go_enter Try.func12, Try.ntmps12
  go_wp2_with (go_at_call 24; refine (isTok0 s w h0 hs H.out.1 H.out.2).mono ?_; rintro e w' ⟨rfl, rfl⟩)
  go_ret
  exact ⟨rfl, rfl⟩

set_option maxHeartbeats 400000 in
theorem par0 (s : ByteArray) (i : Int) (w : World) :
    Calls Try.prog 8 #[.string s, .int .i64 i] w fun e w' => e = .returned (.pointer (some ⟨w.heap.size, 0, none⟩)) ∧ w' = w.alloc (.cells #[.string s, .int .i64 i] 40) := by
  go_enter Try.func8, Try.ntmps8
  go_wp2
  go_ret
  exact ⟨rfl, rfl⟩

theorem PS.new (w : World) (s : ByteArray) (i : Nat) : PS (w.alloc (.cells #[.string s, .int .i64 (i : Int)] 40)) w.heap.size s i := by
  refine ⟨?_, ?_, ?_⟩
  · rw [World.cell?_alloc_new]; rfl
  · rw [World.cell?_alloc_new]; rfl
  · rw [frozen?_alloc_cells]
    simp [World.frozen?]

set_option maxHeartbeats 400000 in
theorem pos0 (pb : Nat) (s : ByteArray) (i : Nat) (w : World) (h : PS w pb s i) : Calls Try.prog 10 #[.pointer (some ⟨pb, 0, none⟩)] w fun e w' => e = .returned (.int .i64 (i : Int)) ∧ w' = w := by
  obtain ⟨h1, h2, h3⟩ := h
  go_enter Try.func10, Try.ntmps10
  go_wp2
  go_ret
  exact ⟨rfl, rfl⟩

/-- What ZZToken leaves: the text under a name of its own. -/
def TokPost1 (pb : Nat) (s : ByteArray) (st : Nat) (w : World) (e : Ending) (w' : World) : Prop :=
  ∃ (q : Nat) (t : ByteArray), e = .returned (.string t) ∧ t = s.extract st q ∧ st < q ∧ q ≤ s.size ∧ (∀ j, st < j → j < q → tokAt s j) ∧ (∀ h : q < s.size, ¬ tok ((s[q]'h).toNat : Int)) ∧ PS w' pb s q ∧ ExtP pb w w'

set_option maxHeartbeats 400000 in
theorem zzTok0 (pb : Nat) (s : ByteArray) (st : Nat) (w : World) (h : PS w pb s st) (hst : st < s.size) (hs : s.size ≤ 2000000) :
    Calls Try.prog 9 #[.pointer (some ⟨pb, 0, none⟩)] w (TokPost1 pb s st w) := by
  have H : Hid (PS w pb s st) := h
  clear h
  go_enter Try.func9, Try.ntmps9
  go_wp2_with (go_at_call 23; refine (token0 pb s st w H.out hst hs).mono ?_; rintro e w' ⟨q, rfl, hp⟩)
  go_ret
  exact ⟨q, _, rfl, rfl, hp⟩

theorem zzTok1 (pb : Nat) (t : ByteArray) (w : World) (h : PS w pb t 0) (h0 : 0 < t.size) (hs : t.size ≤ 2000000) (hall : ∀ j, 0 < j → tokAt t j) :
    Calls Try.prog 9 #[.pointer (some ⟨pb, 0, none⟩)] w fun e w' => e = .returned (.string t) ∧ PS w' pb t t.size ∧ ExtP pb w w' := by
  refine (zzTok0 pb t 0 w h h0 hs).mono ?_
  rintro e w' ⟨q, t', rfl, ht, hq1, hq2, hq3, hq4, hP, hX⟩
  have hq : q = t.size := by
    by_cases hlt : q < t.size
    · exact absurd (hall q (by omega) hlt) (hq4 hlt)
    · omega
  subst hq
  rw [ht, ext_all]
  exact ⟨rfl, hP, hX⟩

set_option maxHeartbeats 400000 in
theorem bytes_yes (s : ByteArray) (i : Int) (w : World) (h : s.size ≤ 1048576) : Calls Try.prog 6 #[.string s, .int .i64 i] w (Says w true) := by
  go_enter Try.func6, Try.ntmps6
  go_wp2
  go_ret
  exact ⟨rfl, rfl⟩

set_option maxHeartbeats 400000 in
theorem bytes_no (s : ByteArray) (i : Int) (w : World) (h : 1048576 < s.size) (h1 : s.size ≤ 9223372036854775807) : Calls Try.prog 6 #[.string s, .int .i64 i] w (Says w false) := by
  go_enter Try.func6, Try.ntmps6
  go_wp2
  go_ret
  exact ⟨rfl, rfl⟩
end Go.Proofs.Qxb6003801a
