/-
  THE WALK OF THE LAW, out of the contracts.
-/
import Derived.Test.Qxb6003801aLaw
namespace Go.Proofs.Qxb6003801a
open Go.RowKit
set_option linter.unusedVariables false

def Good (w : World) (e : Ending) (w' : World) : Prop := e = .returned (.bool true) ∧ Grown w w'

set_option maxHeartbeats 1000000 in
theorem main_big (s : ByteArray) (i : Int) (w : World) (h : 1048576 < s.size) (h1 : s.size ≤ 9223372036854775807) : Calls Try.prog 3 #[.string s, .int .i64 i] w (Good w) := by
  go_enter Try.func3, Try.ntmps3
  go_wp2_with (go_at_call 6; refine (bytes_no s i w h h1).mono ?_; rintro e w' ⟨rfl, rfl⟩)
  go_ret
  exact ⟨rfl, Grown.refl _⟩

set_option maxHeartbeats 1000000 in
theorem main_out (s : ByteArray) (i : Int) (w : World) (h : s.size ≤ 1048576) (hi : i < 0 ∨ (s.size : Int) ≤ i) : Calls Try.prog 3 #[.string s, .int .i64 i] w (Good w) := by
  by_cases hn : i < 0
  · clear hi
    go_enter Try.func3, Try.ntmps3
    go_wp2_with (go_at_call 6; refine (bytes_yes s i w h).mono ?_; rintro e w' ⟨rfl, rfl⟩)
    go_ret
    exact ⟨rfl, Grown.refl _⟩
  · have hi2 : (s.size : Int) ≤ i := hi.resolve_left hn
    clear hi
    go_enter Try.func3, Try.ntmps3
    go_wp2_with (go_at_call 6; refine (bytes_yes s i w h).mono ?_; rintro e w' ⟨rfl, rfl⟩)
    go_ret
    exact ⟨rfl, Grown.refl _⟩

set_option maxHeartbeats 1000000 in
theorem main_no (s : ByteArray) (p : Nat) (w : World) (h : s.size ≤ 1048576) (hp : p < s.size) (hf : ¬ (alp ((s[p]'hp).toNat : Int) ∨ ((s[p]'hp).toNat : Int) = 42)) : Calls Try.prog 3 #[.string s, .int .i64 (p : Int)] w (Good w) := by
  have HF : Hid (¬ (alp ((s[p]'hp).toNat : Int) ∨ ((s[p]'hp).toNat : Int) = 42)) := hf
  clear hf
  go_enter Try.func3, Try.ntmps3
  go_wp2_with (first | (go_at_call 6; refine (bytes_yes s _ w h).mono ?_; rintro e w' ⟨rfl, rfl⟩) | (go_at_call 7; refine (starts_no _ _ HF.out).mono ?_; rintro e w' ⟨rfl, rfl⟩))
  go_ret
  exact ⟨rfl, Grown.refl _⟩

set_option maxRecDepth 10000 in
set_option maxHeartbeats 4000000 in
theorem main_go (s : ByteArray) (p : Nat) (w : World) (h : s.size ≤ 1048576) (hp : p < s.size) (hf : alp ((s[p]'hp).toNat : Int) ∨ ((s[p]'hp).toNat : Int) = 42) : Calls Try.prog 3 #[.string s, .int .i64 (p : Int)] w (Good w) := by
  have HF : Hid (alp ((s[p]'hp).toNat : Int) ∨ ((s[p]'hp).toNat : Int) = 42) := hf
  have d1 : decide ((1048576 : Int) < (s.size : Int)) = false := by simp; omega
  have d2 : decide ((p : Int) < 0) = false := by simp
  clear hf
  go_enter Try.func3, Try.ntmps3
  go_wp2_with (first | (go_at_call 6; refine (bytes_yes s _ w h).mono ?_; rintro e w' ⟨rfl, rfl⟩) | (go_at_call 7; refine (starts_yes _ _ HF.out).mono ?_; rintro e w' ⟨rfl, rfl⟩))
  refine (par0 s p _).mono ?_
  rintro e w1 ⟨rfl, hw1⟩
  have hP : PS w1 w'.heap.size s p := by rw [hw1]; exact PS.new w' s p
  have hG : Grown w' w1 := by rw [hw1]; exact (Grown.refl w').alloc _ _
  clear hw1
  go_wp2_with fail
  refine (zzTok0 w'.heap.size s p w1 hP hp (by omega)).mono ?_
  rintro e w2 ⟨q, t, rfl, ht, hq1, hq2, hq3, hq4, hP2, hX⟩
  have hG2 : Hid (Grown w' w2) := hX w' hG (Nat.le_refl _)
  have hts : t.size = q - p := by rw [ht]; exact ext_size s p q hq2
  have l1 : ((t.size : Int) != (q : Int) - (p : Int)) = false := by simp; omega
  have l2 : (t.toList == (s.extract p q).toList) = true := by rw [ht]; simp
  have ht0 : 0 < t.size := by omega
  have HS : Hid (t.size = q - p) := hts
  have HT0 : Hid (alp ((t[0]'ht0).toNat : Int) ∨ ((t[0]'ht0).toNat : Int) = 42) := by
    subst ht
    have := ext_get s p q 0 ht0 (by omega)
    show alp (((s.extract p q)[0]'ht0).toNat : Int) ∨ (((s.extract p q)[0]'ht0).toNat : Int) = 42
    rw [this]
    exact HF.out
  have HTA : Hid (∀ j, 0 < j → tokAt t j) := by
    intro j hj hlt
    subst ht
    rw [ext_get s p q j hlt (by omega)]
    exact hq3 (p + j) (by omega) (by omega) (by omega)
  have H3 : Hid (∀ j, p < j → j < q → tokAt s j) := hq3
  have H4 : Hid (∀ h : q < s.size, ¬ tok ((s[q]'h).toNat : Int)) := hq4
  have HP2 : Hid (PS w2 w'.heap.size s q) := hP2
  have htl : t.size ≤ 1048576 := by omega
  have d3 : decide (q ≤ p) = false := by simp; omega
  have d4 : decide (s.size < q) = false := by simp; omega
  have b1 : (0 : Int) ≤ (p : Int) := by omega
  have b2 : (p : Int) ≤ (q : Int) := by omega
  have b3 : (q : Int) ≤ (s.size : Int) := by omega
  clear ht hts hq3 hq4 hP2 hX hG hP
  go_wp2_with fail
  refine (pos0 w'.heap.size s q w2 HP2.out).mono ?_
  rintro e w3 ⟨rfl, rfl⟩
  go_wp2_with fail
  go_loop [8] (fun v => ∃ i : Nat, p < i ∧ i ≤ q ∧ v = .int .i64 (i : Int)) (fun v => q - (intOf v).toNat)
  case atStart => exact ⟨p + 1, by omega, by omega, by go_num⟩
  case round =>
    obtain ⟨i, hi0, hi1, rfl⟩ := hrel
    by_cases hi : i < q
    · have his : i < s.size := by omega
      have hby := u8_le (s[i]'his)
      have HT : Hid (tok ((s[i]'his).toNat : Int)) := H3.out i hi0 hi his
      go_wp2_with (go_at_call 11; refine (ztok_yes _ _ (by omega) (by omega) HT.out).mono ?_; rintro e w4 ⟨rfl, rfl⟩)
      go_round
      case rel => exact ⟨i + 1, by omega, by omega, by go_num⟩
      case measure => simp [intOf]; omega
    · by_cases hqs : q < s.size
      · have hby := u8_le (s[q]'hqs)
        have HT : Hid (¬ tok ((s[q]'hqs).toNat : Int)) := H4.out hqs
        go_wp2_with (first | (go_at_call 12; refine (zzIs0 t _ ht0 (by omega) HT0.out HTA.out).mono ?_; rintro e w4 ⟨rfl, rfl⟩) | (go_at_call 11; refine (ztok_no _ _ (by omega) (by omega) HT.out).mono ?_; rintro e w4 ⟨rfl, rfl⟩))
        refine (par0 t 0 _).mono ?_
        rintro e w5 ⟨rfl, hw5⟩
        have hP5 : PS w5 w4.heap.size t 0 := by rw [hw5]; exact PS.new w4 t 0
        have hG5 : Grown w' w5 := by rw [hw5]; exact hG2.out.alloc _ _
        have hsz : w'.heap.size ≤ w4.heap.size := hG2.out.2.2
        clear hw5
        go_wp2_with fail
        refine (zzTok1 w4.heap.size t w5 hP5 ht0 (by omega) HTA.out).mono ?_
        rintro e w6 ⟨rfl, hP6, hX6⟩
        have hG6 : Hid (Grown w' w6) := hX6 w' hG5 hsz
        have HP6 : Hid (PS w6 w4.heap.size t t.size) := hP6
        clear hP5 hG5 hP6 hX6
        go_wp2_with fail
        refine (pos0 w4.heap.size t t.size w6 HP6.out).mono ?_
        rintro e w7 ⟨rfl, rfl⟩
        go_wp2_with fail
        go_ret
        exact ⟨by simp, hG6.out⟩
      · have d5 : decide (q < s.size) = false := by simp; omega
        go_wp2_with (first | (go_at_call 12; refine (zzIs0 t _ ht0 (by omega) HT0.out HTA.out).mono ?_; rintro e w4 ⟨rfl, rfl⟩))
        refine (par0 t 0 _).mono ?_
        rintro e w5 ⟨rfl, hw5⟩
        have hP5 : PS w5 w4.heap.size t 0 := by rw [hw5]; exact PS.new w4 t 0
        have hG5 : Grown w' w5 := by rw [hw5]; exact hG2.out.alloc _ _
        have hsz : w'.heap.size ≤ w4.heap.size := hG2.out.2.2
        clear hw5
        go_wp2_with fail
        refine (zzTok1 w4.heap.size t w5 hP5 ht0 (by omega) HTA.out).mono ?_
        rintro e w6 ⟨rfl, hP6, hX6⟩
        have hG6 : Hid (Grown w' w6) := hX6 w' hG5 hsz
        have HP6 : Hid (PS w6 w4.heap.size t t.size) := hP6
        clear hP5 hG5 hP6 hX6
        go_wp2_with fail
        refine (pos0 w4.heap.size t t.size w6 HP6.out).mono ?_
        rintro e w7 ⟨rfl, rfl⟩
        go_wp2_with fail
        go_ret
        exact ⟨by simp, hG6.out⟩
end Go.Proofs.Qxb6003801a
