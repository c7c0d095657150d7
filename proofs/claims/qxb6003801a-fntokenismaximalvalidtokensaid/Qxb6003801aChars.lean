/-
  BYTES OF A TOKEN: the predicates, and the walks of the small functions that test them.
-/
import Derived.Test.Qxb6003801aRows
import Derived.WalkKit
import Derived.ProofKit
import Derived.Lib.Bytealg
namespace Go.Proofs.Qxb6003801a
open Go.RowKit
set_option linter.unusedVariables false

def alp (c : Int) : Prop := (97 ≤ c ∧ c ≤ 122) ∨ (65 ≤ c ∧ c ≤ 90)
def dig (c : Int) : Prop := 48 ≤ c ∧ c ≤ 57
def spc (c : Int) : Prop := c = 33 ∨ c = 35 ∨ c = 36 ∨ c = 37 ∨ c = 38 ∨ c = 39 ∨ c = 42 ∨ c = 43 ∨ c = 45 ∨ c = 46 ∨ c = 94 ∨ c = 95 ∨ c = 96 ∨ c = 124 ∨ c = 126
def tch (c : Int) : Prop := alp c ∨ dig c ∨ spc c
def tok (c : Int) : Prop := tch c ∨ c = 58 ∨ c = 47

/-- What a quiet test answers. -/
def Says (w : World) (b : Bool) (e : Ending) (w' : World) : Prop := e = .returned (.bool b) ∧ w' = w

section
variable (c : Int) (w : World)

set_option maxHeartbeats 1000000 in
theorem lc_yes (h : 97 ≤ c ∧ c ≤ 122) : Calls Try.prog 31 #[.int .u8 c] w (Says w true) := by
  obtain ⟨h1, h2⟩ := h
  go_enter Try.func31, Try.ntmps31
  go_wp2
  go_ret
  exact ⟨rfl, rfl⟩

set_option maxHeartbeats 1000000 in
theorem lc_no (h : ¬ (97 ≤ c ∧ c ≤ 122)) : Calls Try.prog 31 #[.int .u8 c] w (Says w false) := by
  by_cases h1 : 97 ≤ c
  · have h2 : ¬ c ≤ 122 := fun e => h ⟨h1, e⟩
    clear h
    go_enter Try.func31, Try.ntmps31
    go_wp2
    go_ret
    exact ⟨rfl, rfl⟩
  · clear h
    go_enter Try.func31, Try.ntmps31
    go_wp2
    go_ret
    exact ⟨rfl, rfl⟩

set_option maxHeartbeats 1000000 in
theorem dig_yes (h : dig c) : Calls Try.prog 29 #[.int .u8 c] w (Says w true) := by
  obtain ⟨h1, h2⟩ := h
  go_enter Try.func29, Try.ntmps29
  go_wp2
  go_ret
  exact ⟨rfl, rfl⟩

set_option maxHeartbeats 1000000 in
theorem dig_no (h : ¬ dig c) : Calls Try.prog 29 #[.int .u8 c] w (Says w false) := by
  by_cases h1 : 48 ≤ c
  · have h2 : ¬ c ≤ 57 := fun e => h ⟨h1, e⟩
    clear h
    go_enter Try.func29, Try.ntmps29
    go_wp2
    go_ret
    exact ⟨rfl, rfl⟩
  · clear h
    go_enter Try.func29, Try.ntmps29
    go_wp2
    go_ret
    exact ⟨rfl, rfl⟩

set_option maxHeartbeats 1000000 in
theorem alp_yes (h : alp c) : Calls Try.prog 28 #[.int .u8 c] w (Says w true) := by
  by_cases h1 : 97 ≤ c ∧ c ≤ 122
  · have H : Hid (97 ≤ c ∧ c ≤ 122) := h1
    clear h h1
    go_enter Try.func28, Try.ntmps28
    go_wp2_with (go_at_call 31; refine (lc_yes c w H.out).mono ?_; rintro e w' ⟨rfl, rfl⟩)
    go_ret
    exact ⟨rfl, rfl⟩
  · have H : Hid (¬ (97 ≤ c ∧ c ≤ 122)) := h1
    have h2 : 65 ≤ c := by unfold alp at h; omega
    have h3 : c ≤ 90 := by unfold alp at h; omega
    clear h h1
    go_enter Try.func28, Try.ntmps28
    go_wp2_with (go_at_call 31; refine (lc_no c w H.out).mono ?_; rintro e w' ⟨rfl, rfl⟩)
    go_ret
    exact ⟨rfl, rfl⟩

set_option maxHeartbeats 1000000 in
theorem alp_no (h : ¬ alp c) : Calls Try.prog 28 #[.int .u8 c] w (Says w false) := by
  have H : Hid (¬ (97 ≤ c ∧ c ≤ 122)) := fun e => h (.inl e)
  by_cases h1 : 65 ≤ c
  · have h2 : ¬ c ≤ 90 := fun e => h (.inr ⟨h1, e⟩)
    have hd : decide (c ≤ 90) = false := by simp; omega
    clear h
    go_enter Try.func28, Try.ntmps28
    go_wp2_with (go_at_call 31; refine (lc_no c w H.out).mono ?_; rintro e w' ⟨rfl, rfl⟩)
    go_ret
    exact ⟨rfl, rfl⟩
  · clear h
    go_enter Try.func28, Try.ntmps28
    go_wp2_with (go_at_call 31; refine (lc_no c w H.out).mono ?_; rintro e w' ⟨rfl, rfl⟩)
    go_ret
    exact ⟨rfl, rfl⟩

set_option maxHeartbeats 1000000 in
theorem zalp_yes (h : alp c) : Calls Try.prog 22 #[.int .u8 c] w (Says w true) := by
  by_cases h1 : 97 ≤ c ∧ c ≤ 122
  · obtain ⟨h2, h3⟩ := h1
    clear h
    go_enter Try.func22, Try.ntmps22
    go_wp2
    go_ret
    exact ⟨rfl, rfl⟩
  · have h2 : 65 ≤ c := by unfold alp at h; omega
    have h3 : c ≤ 90 := by unfold alp at h; omega
    have h4 : ¬ 97 ≤ c := by omega
    clear h h1
    go_enter Try.func22, Try.ntmps22
    go_wp2
    go_ret
    exact ⟨rfl, rfl⟩

set_option maxHeartbeats 1000000 in
theorem zalp_no (h : ¬ alp c) : Calls Try.prog 22 #[.int .u8 c] w (Says w false) := by
  by_cases h1 : 97 ≤ c
  · have h2 : ¬ c ≤ 122 := fun e => h (.inl ⟨h1, e⟩)
    have hd : decide (c ≤ 122) = false := by simp; omega
    have hd2 : decide (c ≤ 90) = false := by simp; omega
    clear h
    go_enter Try.func22, Try.ntmps22
    go_wp2
    go_ret
    exact ⟨rfl, rfl⟩
  · by_cases h2 : 65 ≤ c
    · have h3 : ¬ c ≤ 90 := fun e => h (.inr ⟨h2, e⟩)
      have hd : decide (c ≤ 90) = false := by simp; omega
      clear h
      go_enter Try.func22, Try.ntmps22
      go_wp2
      go_ret
      exact ⟨rfl, rfl⟩
    · clear h
      go_enter Try.func22, Try.ntmps22
      go_wp2
      go_ret
      exact ⟨rfl, rfl⟩

set_option maxHeartbeats 400000 in
theorem idx1 (s : ByteArray) :
    Calls Try.prog 32 #[.string s, .int .u8 c] w fun e w' => e = .returned (.int .i64 (Lib.indexByte s.data.toList c.toNat.toUInt8)) ∧ w' = w := by
  go_enter Try.func32, Try.ntmps32
  go_wp2
  rw [run_callFunc_extern Try.func33 (by kernel_rfl) (by kernel_rfl) (by kernel_rfl) (e := Extern.BytealgIndexByte.indexByte) (by kernel_rfl), Lib.run_indexByteString]
  simp only [Result.andThen]
  rw [Oper.upon_value]
  go_wp2
  go_ret
  exact ⟨rfl, rfl⟩

set_option maxHeartbeats 400000 in
theorem idx0 (s : ByteArray) :
    Calls Try.prog 30 #[.string s, .int .u8 c] w fun e w' => e = .returned (.int .i64 (Lib.indexByte s.data.toList c.toNat.toUInt8)) ∧ w' = w := by
  go_enter Try.func30, Try.ntmps30
  go_wp2_with (go_at_call 32; refine (idx1 _ _ _).mono ?_; rintro e w' ⟨rfl, rfl⟩)
  go_ret
  exact ⟨rfl, rfl⟩

theorem idx_all : ∀ c : Nat, c < 256 → ([33, 35, 36, 37, 38, 39, 42, 43, 45, 46, 94, 95, 96, 124, 126] : List Nat).contains c = decide (0 ≤ Lib.indexByte [33, 35, 36, 37, 38, 39, 42, 43, 45, 46, 94, 95, 96, 124, 126] c.toUInt8) := by decide +kernel

theorem spc_iff (h0 : 0 ≤ c) : spc c ↔ ([33, 35, 36, 37, 38, 39, 42, 43, 45, 46, 94, 95, 96, 124, 126] : List Nat).contains c.toNat = true := by
  unfold spc
  simp
  omega

theorem idx_yes (h0 : 0 ≤ c) (h1 : c ≤ 255) (h : spc c) :
    Calls Try.prog 30 #[.string { data := #[33, 35, 36, 37, 38, 39, 42, 43, 45, 46, 94, 95, 96, 124, 126] }, .int .u8 c] w fun e w' => ∃ z : Int, e = .returned (.int .i64 z) ∧ 0 ≤ z ∧ w' = w :=
  (idx0 c w _).mono fun e w' he => ⟨_, he.1, by
    have g := idx_all c.toNat (by omega)
    rw [(spc_iff c h0).1 h] at g
    exact of_decide_eq_true g.symm, he.2⟩
theorem idx_no (h0 : 0 ≤ c) (h1 : c ≤ 255) (h : ¬ spc c) :
    Calls Try.prog 30 #[.string { data := #[33, 35, 36, 37, 38, 39, 42, 43, 45, 46, 94, 95, 96, 124, 126] }, .int .u8 c] w fun e w' => ∃ z : Int, e = .returned (.int .i64 z) ∧ z < 0 ∧ w' = w :=
  (idx0 c w _).mono fun e w' he => ⟨_, he.1, by
    have g := idx_all c.toNat (by omega)
    have g2 : ¬ 0 ≤ Lib.indexByte [33, 35, 36, 37, 38, 39, 42, 43, 45, 46, 94, 95, 96, 124, 126] c.toNat.toUInt8 := fun e => h ((spc_iff c h0).2 (by rw [g]; exact decide_eq_true e))
    exact Int.not_le.1 g2, he.2⟩

set_option maxHeartbeats 1000000 in
theorem tch_yes (h0 : 0 ≤ c) (h1 : c ≤ 255) (h : tch c) : Calls Try.prog 26 #[.int .u8 c] w (Says w true) := by
  by_cases ha : alp c
  · have H : Hid (alp c) := ha
    clear h ha
    go_enter Try.func26, Try.ntmps26
    go_wp2_with (go_at_call 28; refine (alp_yes c w H.out).mono ?_; rintro e w' ⟨rfl, rfl⟩)
    go_ret
    exact ⟨rfl, rfl⟩
  · by_cases hd : dig c
    · have H : Hid (¬ alp c ∧ dig c) := ⟨ha, hd⟩
      clear h ha hd
      go_enter Try.func26, Try.ntmps26
      go_wp2_with (first | (go_at_call 28; refine (alp_no c w H.out.1).mono ?_; rintro e w' ⟨rfl, rfl⟩) | (go_at_call 29; refine (dig_yes c _ H.out.2).mono ?_; rintro e w' ⟨rfl, rfl⟩))
      go_ret
      exact ⟨rfl, rfl⟩
    · have hs : spc c := by
        rcases h with h | h | h
        · exact absurd h ha
        · exact absurd h hd
        · exact h
      have H : Hid (¬ alp c ∧ ¬ dig c ∧ spc c) := ⟨ha, hd, hs⟩
      clear h ha hd hs
      go_enter Try.func26, Try.ntmps26
      go_wp2_with (first | (go_at_call 28; refine (alp_no c w H.out.1).mono ?_; rintro e w' ⟨rfl, rfl⟩) | (go_at_call 29; refine (dig_no c _ H.out.2.1).mono ?_; rintro e w' ⟨rfl, rfl⟩) | (go_at_call 30; refine (idx_yes c _ h0 h1 H.out.2.2).mono ?_; rintro e w' ⟨z, rfl, hz, rfl⟩; have hzd : decide (0 ≤ z) = true := (by simp; omega)))
      go_ret
      exact ⟨rfl, rfl⟩

set_option maxHeartbeats 1000000 in
theorem tch_no (h0 : 0 ≤ c) (h1 : c ≤ 255) (h : ¬ tch c) : Calls Try.prog 26 #[.int .u8 c] w (Says w false) := by
  have H : Hid (¬ alp c ∧ ¬ dig c ∧ ¬ spc c) := ⟨fun e => h (.inl e), fun e => h (.inr (.inl e)), fun e => h (.inr (.inr e))⟩
  clear h
  go_enter Try.func26, Try.ntmps26
  go_wp2_with (first | (go_at_call 28; refine (alp_no c w H.out.1).mono ?_; rintro e w' ⟨rfl, rfl⟩) | (go_at_call 29; refine (dig_no c _ H.out.2.1).mono ?_; rintro e w' ⟨rfl, rfl⟩) | (go_at_call 30; refine (idx_no c _ h0 h1 H.out.2.2).mono ?_; rintro e w' ⟨z, rfl, hz, rfl⟩; have hzd : decide (0 ≤ z) = false := (by simp; omega)))
  go_ret
  exact ⟨rfl, rfl⟩

set_option maxHeartbeats 1000000 in
theorem starts_yes (h : alp c ∨ c = 42) : Calls Try.prog 7 #[.int .u8 c] w (Says w true) := by
  by_cases ha : alp c
  · have H : Hid (alp c) := ha
    clear h ha
    go_enter Try.func7, Try.ntmps7
    go_wp2_with (go_at_call 22; refine (zalp_yes c w H.out).mono ?_; rintro e w' ⟨rfl, rfl⟩)
    go_ret
    exact ⟨rfl, rfl⟩
  · have hc : c = 42 := by
      rcases h with h | h
      · exact absurd h ha
      · exact h
    subst hc
    have H : Hid (¬ alp 42) := ha
    clear h ha
    go_enter Try.func7, Try.ntmps7
    go_wp2_with (go_at_call 22; refine (zalp_no 42 w H.out).mono ?_; rintro e w' ⟨rfl, rfl⟩)
    go_ret
    exact ⟨rfl, rfl⟩

set_option maxHeartbeats 1000000 in
theorem starts_no (h : ¬ (alp c ∨ c = 42)) : Calls Try.prog 7 #[.int .u8 c] w (Says w false) := by
  have H : Hid (¬ alp c) := fun e => h (.inl e)
  have hc : (c == 42) = false := by simp; exact fun e => h (.inr e)
  clear h
  go_enter Try.func7, Try.ntmps7
  go_wp2_with (go_at_call 22; refine (zalp_no c w H.out).mono ?_; rintro e w' ⟨rfl, rfl⟩)
  go_ret
  exact ⟨rfl, rfl⟩

set_option maxRecDepth 10000 in
set_option maxHeartbeats 4000000 in
theorem ztok_yes (h0 : 0 ≤ c) (h1 : c ≤ 255) (h : tok c) : Calls Try.prog 11 #[.int .u8 c] w (Says w true) := by
  by_cases ha : alp c
  · have H : Hid (alp c) := ha
    clear h ha
    go_enter Try.func11, Try.ntmps11
    go_wp2_with (go_at_call 22; refine (zalp_yes c w H.out).mono ?_; rintro e w' ⟨rfl, rfl⟩)
    go_ret
    exact ⟨rfl, rfl⟩
  · by_cases hd : dig c
    · have H : Hid (¬ alp c) := ha
      obtain ⟨hd1, hd2⟩ := hd
      clear h ha
      go_enter Try.func11, Try.ntmps11
      go_wp2_with (go_at_call 22; refine (zalp_no c w H.out).mono ?_; rintro e w' ⟨rfl, rfl⟩)
      go_ret
      exact ⟨rfl, rfl⟩
    · have hs : spc c ∨ c = 58 ∨ c = 47 := by
        rcases h with (h | h | h) | h
        · exact absurd h ha
        · exact absurd h hd
        · exact .inl h
        · exact .inr h
      have H : Hid (¬ alp c) := ha
      clear h ha hd
      unfold spc at hs
      rcases hs with (rfl | rfl | rfl | rfl | rfl | rfl | rfl | rfl | rfl | rfl | rfl | rfl | rfl | rfl | rfl) | rfl | rfl
      all_goals
        go_enter Try.func11, Try.ntmps11
        go_wp2_with (go_at_call 22; refine (zalp_no _ w H.out).mono ?_; rintro e w' ⟨rfl, rfl⟩)
        go_ret
        exact ⟨rfl, rfl⟩

set_option maxRecDepth 10000 in
set_option maxHeartbeats 4000000 in
theorem ztok_no (h0 : 0 ≤ c) (h1 : c ≤ 255) (h : ¬ tok c) : Calls Try.prog 11 #[.int .u8 c] w (Says w false) := by
  have H : Hid (¬ alp c) := fun e => h (.inl (.inl e))
  have hd : ¬ (48 ≤ c ∧ c ≤ 57) := fun e => h (.inl (.inr (.inl e)))
  have hs : ¬ spc c := fun e => h (.inl (.inr (.inr e)))
  have e1 : (c == 58) = false := by simp; exact fun e => h (.inr (.inl e))
  have e2 : (c == 47) = false := by simp; exact fun e => h (.inr (.inr e))
  clear h
  unfold spc at hs
  have q1 : (c == 33) = false := by simp; omega
  have q2 : (c == 35) = false := by simp; omega
  have q3 : (c == 36) = false := by simp; omega
  have q4 : (c == 37) = false := by simp; omega
  have q5 : (c == 38) = false := by simp; omega
  have q6 : (c == 39) = false := by simp; omega
  have q7 : (c == 42) = false := by simp; omega
  have q8 : (c == 43) = false := by simp; omega
  have q9 : (c == 45) = false := by simp; omega
  have q10 : (c == 46) = false := by simp; omega
  have q11 : (c == 94) = false := by simp; omega
  have q12 : (c == 95) = false := by simp; omega
  have q13 : (c == 96) = false := by simp; omega
  have q14 : (c == 124) = false := by simp; omega
  have q15 : (c == 126) = false := by simp; omega
  clear hs
  by_cases h48 : 48 ≤ c
  · have h57 : ¬ c ≤ 57 := by omega
    have hdd : decide (c ≤ 57) = false := by simp; omega
    clear hd
    go_enter Try.func11, Try.ntmps11
    go_wp2_with (go_at_call 22; refine (zalp_no c w H.out).mono ?_; rintro e w' ⟨rfl, rfl⟩)
    go_ret
    exact ⟨rfl, rfl⟩
  · clear hd
    go_enter Try.func11, Try.ntmps11
    go_wp2_with (go_at_call 22; refine (zalp_no c w H.out).mono ?_; rintro e w' ⟨rfl, rfl⟩)
    go_ret
    exact ⟨rfl, rfl⟩
end
end Go.Proofs.Qxb6003801a
