/-
  THE WALK OF buildString.
-/
import Derived.Test.Qxb6001622aNum
namespace Go.Proofs.Qxb6001622a
open Go.RowKit
set_option linter.unusedVariables false

theorem tape3 {W w : World} {B : Nat} {a0 ao : Option Addr} {n cap : Nat} {xs : List Int} {G : List Int → Prop} (ta : Option Addr) (tl tc : Nat) (pi : Int) (h0 : 0 ≤ pi) (h1 : pi ≤ 1000000000) (hS : St W w B a0 ao n cap xs G) (hT : Tape W B ta tl) :
    Calls Try.prog 19 #[.slice ta tl tc, .int .i64 pi] w fun e w' => ∃ x : Int, e = .returned (.int .u8 x) ∧ 0 ≤ x ∧ x ≤ 255 ∧ w' = w :=
  tape2 ta tl tc pi pi.toNat (by omega) hS hT (by omega)

/-- The reader stands inside a string. -/
def InS (ys : List Int) : Prop := ∀ d, rd (0, d) ys = (1, d)
/-- A whole string. -/
def Str (ys : List Int) : Prop := Neu ys ∧ rd (0, 0) ys = (3, 0)

theorem ins_start : InS [34] := fun d => by simp [rd, stp]
theorem ins_two {ys : List Int} (h : InS ys) (c : Int) : InS (ys ++ [92, c]) := fun d => by rw [rd_app, h d, str_esc]
theorem ins_one {ys : List Int} (h : InS ys) (c : Int) (h1 : c ≠ 34) (h2 : c ≠ 92) : InS (ys ++ [c]) := fun d => by rw [rd_app, h d, str_one c h1 h2]
theorem ins_six {ys : List Int} (h : InS ys) (a b c e : Int) (ha : a ≠ 34 ∧ a ≠ 92) (hb : b ≠ 34 ∧ b ≠ 92) (hc : c ≠ 34 ∧ c ≠ 92) (he : e ≠ 34 ∧ e ≠ 92) : InS (ys ++ [92, 117, a, b, c, e]) := fun d => by
  rw [rd_app, h d]
  simp [rd, stp, ha, hb, hc, he]
theorem str_close {ys : List Int} (h : InS ys) : Str (ys ++ [34]) := by
  refine ⟨fun d hd => ?_, ?_⟩
  · have h0 : d ≠ 0 := by omega
    rw [rd_app, h d]; simp [rd, stp, h0]
  · rw [rd_app, h 0]; simp [rd, stp]

set_option maxRecDepth 20000 in
set_option maxHeartbeats 4000000 in
theorem strg0 (ta : Option Addr) (tl tc p M B : Nat) (ao : Option Addr) (n cap : Nat) (xs : List Int) (w : World) (hT : Tape w B ta tl) (hp : p ≤ M) (ht : tl ≤ M) (hM : M ≤ 500000) (hn : n + 8 * p ≤ 20000000) (ho : Own w B 5 .u8 ao n cap xs) (hB : B ≤ w.heap.size) :
    Calls Try.prog 20 #[.slice ta tl tc, .int .i64 (p : Int), .slice ao n cap] w (BPost B w ao n xs p M 3 0 Str) := by
  have hS : St w w B ao ao n cap xs (fun ys => ys = []) := St.start ho hB rfl
  have HT : Hid (Tape w B ta tl) := hT
  clear ho hT
  go_enter Try.func20, Try.ntmps20
  go_wp2_with (first | (at_builtin; refine wpT rfl (.tmp 15) (.tmp 16) rfl rfl hS InS [_] 1 1 rfl rfl (fun ys h => by subst h; exact ins_start) (by omega) ?_; intro a1 c1 w1 hS1; clear hS; have hS := hS1; clear hS1) | (go_at_call 19; refine (tape2 ta tl tc _ p (by omega) hS HT.out (by omega)).mono ?_; rintro e w2 ⟨x, rfl, hx0, hx1, rfl⟩))
  go_loopw [1, 2, 9] (fun v1 v2 v9 wr => ∃ (p' k : Nat) (a1 : Option Addr) (n1 c1 : Nat), v1 = .int .i64 (p' : Int) ∧ v9 = .int .i64 (k : Int) ∧ v2 = .slice a1 n1 c1 ∧ p < p' ∧ p' ≤ M + 2 ∧ k ≤ p' ∧ n1 + 8 * p + 7 ≤ n + 8 * p' ∧ St w wr B ao a1 n1 c1 xs InS) (fun v1 _ _ _ => tl - (intOf v1).toNat)
  case atStart => exact ⟨p + 1, 0, a1, n + 1, c1, by go_num, rfl, rfl, by omega, by omega, by omega, by omega, hS⟩
  case round =>
    clear hS
    obtain ⟨p', k, a1, n1, c1, rfl, rfl, rfl, hp1, hp2, hk, hn1, hS⟩ := hrel
    by_cases hkx : (k : Int) < x
    · by_cases hpt : p' < tl
      · obtain ⟨tb, tf, rfl, y, hy0, hy1, hc⟩ := (HT.out.of hS.bel).at hpt
        by_cases hq : y = 34 ∨ y = 92
        · rcases hq with rfl | rfl
          all_goals
            go_wp2_with (first | (at_builtin; refine wpT rfl (.tmp 47) (.tmp 49) rfl rfl hS InS [_, _] 2 2 rfl rfl (fun _ h => ins_two h _) (by omega) ?_; intro a1 c1 w1 hS1; clear hS; have hS := hS1; clear hS1))
            go_roundw
            case rel => exact ⟨p' + 1, k + 1, a1, n1 + 2, c1, by go_num, by go_num, rfl, by omega, by omega, by omega, by omega, hS⟩
            case measure => simp [intOf]; omega
        · by_cases h32 : y < 32
          · clear hq
            have h34 : (y == 34) = false := by simp; omega
            have h92 : (y == 92) = false := by simp; omega
            go_wp2_with (first | (at_builtin; refine wpT rfl (.tmp 57) (.tmp 58) rfl rfl hS InS [_, _] 2 2 rfl rfl (fun _ h => ins_two h _) (by omega) ?_; intro a1 c1 w1 hS1; clear hS; have hS := hS1; clear hS1) | (at_builtin; refine wpT rfl (.tmp 62) (.tmp 63) rfl rfl hS InS [_, _] 2 2 rfl rfl (fun _ h => ins_two h _) (by omega) ?_; intro a1 c1 w1 hS1; clear hS; have hS := hS1; clear hS1) | (at_builtin; refine wpT rfl (.tmp 67) (.tmp 68) rfl rfl hS InS [_, _] 2 2 rfl rfl (fun _ h => ins_two h _) (by omega) ?_; intro a1 c1 w1 hS1; clear hS; have hS := hS1; clear hS1) | (at_builtin; refine wpT rfl (.tmp 72) (.tmp 73) rfl rfl hS InS [_, _] 2 2 rfl rfl (fun _ h => ins_two h _) (by omega) ?_; intro a1 c1 w1 hS1; clear hS; have hS := hS1; clear hS1) | (at_builtin; refine wpT rfl (.tmp 77) (.tmp 78) rfl rfl hS InS [_, _] 2 2 rfl rfl (fun _ h => ins_two h _) (by omega) ?_; intro a1 c1 w1 hS1; clear hS; have hS := hS1; clear hS1) | (at_builtin; refine wpT rfl (.tmp 82) (.tmp 83) rfl rfl hS InS [_, _] 2 2 rfl rfl (fun _ h => ins_two h _) (by omega) ?_; intro a1 c1 w1 hS1; clear hS; have hS := hS1; clear hS1) | (go_at_call 19; refine (tape3 _ tl tc _ (by omega) (by omega) hS HT.out).mono ?_; rintro e w3 ⟨h, rfl, hh0, hh1, rfl⟩) | (go_at_call 23; refine (hex0 _ _ _ (by omega) (by omega)).mono ?_; rintro e w4 ⟨z, rfl, hz1, hz2, rfl⟩) | (at_builtin; refine wpT rfl (.tmp 96) (.tmp 111) rfl rfl hS InS [_, _, _, _, _, _] 6 6 rfl rfl (fun _ h => ins_six h _ _ _ _ ⟨by assumption, by assumption⟩ ⟨by assumption, by assumption⟩ ⟨by assumption, by assumption⟩ ⟨by assumption, by assumption⟩) (by omega) ?_; intro a1 c1 w1 hS1; clear hS; have hS := hS1; clear hS1))
            all_goals
              go_roundw
              case rel => first | exact ⟨p' + 1, k + 1, a1, n1 + 2, c1, by go_num, by go_num, rfl, by omega, by omega, by omega, by omega, hS⟩ | exact ⟨p' + 3, k + 1, a1, n1 + 6, c1, by go_num, by go_num, rfl, by omega, by omega, by omega, by omega, hS⟩
              case measure => simp [intOf]; omega
          · have h34 : (y == 34) = false := by simp; omega
            have h92 : (y == 92) = false := by simp; omega
            have HQ : Hid (y ≠ 34 ∧ y ≠ 92) := (show y ≠ 34 ∧ y ≠ 92 by omega)
            clear hq
            go_wp2_with (first | (at_builtin; refine wpT rfl (.tmp 113) (.tmp 115) rfl rfl hS InS [_] 1 1 rfl rfl (fun _ h => ins_one h _ HQ.out.1 HQ.out.2) (by omega) ?_; intro a1 c1 w1 hS1; clear hS; have hS := hS1; clear hS1))
            go_roundw
            case rel => exact ⟨p' + 1, k + 1, a1, n1 + 1, c1, by go_num, by go_num, rfl, by omega, by omega, by omega, by omega, hS⟩
            case measure => simp [intOf]; omega
      · go_wp2_with (first | (at_builtin; refine wpT rfl (.tmp 117) (.tmp 118) rfl rfl hS Str [_] 1 1 rfl rfl (fun _ h => str_close h) (by omega) ?_; intro a1 c1 w1 hS1; clear hS; have hS := hS1; clear hS1))
        go_ret2
        exact BPost.mk hS (by omega) (by omega) (by omega) (fun _ h => h)
    · go_wp2_with (first | (at_builtin; refine wpT rfl (.tmp 117) (.tmp 118) rfl rfl hS Str [_] 1 1 rfl rfl (fun _ h => str_close h) (by omega) ?_; intro a1 c1 w1 hS1; clear hS; have hS := hS1; clear hS1))
      go_ret2
      exact BPost.mk hS (by omega) (by omega) (by omega) (fun _ h => h)
end Go.Proofs.Qxb6001622a
