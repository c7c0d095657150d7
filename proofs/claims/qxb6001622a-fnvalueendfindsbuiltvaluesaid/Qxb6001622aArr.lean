/-
  THE WALK OF buildValue, ITS WAY INTO AN ARRAY.
-/
import Derived.Test.Qxb6001622aKinds
namespace Go.Proofs.Qxb6001622a
open Go.RowKit
set_option linter.unusedVariables false

/-- The reader stands inside one container more. -/
def InC (ys : List Int) : Prop := ∀ d, rd (0, d) ys = (0, d + 1)
theorem inc_open {ys : List Int} (h : ys = []) (c : Int) (hc : c = 91 ∨ c = 123) : InC (ys ++ [c]) := by
  subst h
  intro d
  rcases hc with rfl | rfl <;> simp [rd, stp]
theorem inc_app {ys zs : List Int} (h1 : InC ys) (h2 : Neu zs) : InC (ys ++ zs) := fun d => by rw [rd_app, h1 d, h2 (d + 1) (by omega)]
theorem inc_close {ys : List Int} (h : InC ys) (c : Int) (hc : c = 93 ∨ c = 125) : Scal (ys ++ [c]) := by
  refine ⟨fun d hd => ?_, .inl ?_⟩
  · have h0 : d ≠ 0 := by omega
    rw [rd_app, h d, rd_close d c hc]; simp [stand, h0]
  · rw [rd_app, h 0, rd_close 0 c hc]; simp [stand]

/-- What is known of the calls one level deeper. -/
def ValOK (r : Nat) : Prop :=
  ∀ (ta : Option Addr) (tl tc p B : Nat) (ao : Option Addr) (n cap : Nat) (xs : List Int) (w : World) (di : Int), Tape w B ta tl → 0 ≤ di → 32 ≤ di + (r : Int) → di ≤ 1000 → p ≤ 100000 → tl ≤ 70000 → n ≤ 8 * p → Own w B 5 .u8 ao n cap xs → B ≤ w.heap.size →
    Calls Try.prog 13 #[.slice ta tl tc, .int .i64 (p : Int), .int .i64 di, .slice ao n cap] w (VPost B w ao n xs tl p (10 + 10 * r))

theorem val3 {W w : World} {B : Nat} {a0 ao : Option Addr} {n cap : Nat} {xs : List Int} {G : List Int → Prop} (r : Nat) (hV : ValOK r) (ta : Option Addr) (tl tc : Nat) (pi di : Int) (G' : List Int → Prop) (hS : St W w B a0 ao n cap xs G) (hG : ∀ ys zs, G ys → Scal zs → G' (ys ++ zs)) (hT : Tape W B ta tl)
    (hd0 : 0 ≤ di) (hd1 : 32 ≤ di + (r : Int)) (hd2 : di ≤ 1000) (h0 : 0 ≤ pi) (h1 : pi ≤ 100000) (ht : tl ≤ 70000) (hn : (n : Int) ≤ 8 * pi) :
    Calls Try.prog 13 #[.slice ta tl tc, .int .i64 pi, .int .i64 di, .slice ao n cap] w (IPost W B a0 n xs tl pi (10 + 10 * r) 0 G') := by
  obtain ⟨ys, hg, ho⟩ := hS.own
  obtain ⟨p, hpi⟩ : ∃ p : Nat, pi = (p : Int) := ⟨pi.toNat, by omega⟩
  subst hpi
  refine (hV ta tl tc p B ao n cap _ w di (hT.of hS.bel) hd0 hd1 hd2 (by omega) ht (by omega) ho hS.sz).mono ?_
  rintro e w' ⟨p', ao', n', cap', zs, rfl, h2, h3, h4, hz, h5, h6⟩
  exact ⟨p', ao', n', cap', rfl, by omega, by omega, by omega, hS.next hg ho h5 h6 (hG ys zs hg hz)⟩

set_option maxRecDepth 20000 in
set_option maxHeartbeats 8000000 in
theorem val_arr (r : Nat) (hV : ValOK r) (hr : r ≤ 100) (ta : Option Addr) (tl tc p B : Nat) (ao : Option Addr) (n cap : Nat) (xs : List Int) (w : World) (x di : Int) (hd0 : 0 ≤ di) (hd1 : di < 32) (hd2 : 32 ≤ di + 1 + (r : Int))
    (hT : Tape w B ta tl) (hx : TapeIs w ta tl tc p x) (h0 : 0 ≤ x) (h1 : x ≤ 255) (hk : x % 6 = 3) (hp : p ≤ 100000) (ht : tl ≤ 70000) (hn : n ≤ 8 * p) (ho : Own w B 5 .u8 ao n cap xs) (hB : B ≤ w.heap.size) :
    Calls Try.prog 13 #[.slice ta tl tc, .int .i64 (p : Int), .int .i64 di, .slice ao n cap] w (VPost B w ao n xs tl p (20 + 10 * r)) := by
  have hS : St w w B ao ao n cap xs (fun ys => ys = []) := St.start ho hB rfl
  have HT : Hid (Tape w B ta tl) := hT
  have HX : Hid (TapeIs w ta tl tc p x) := hx
  have HV : Hid (ValOK r) := hV
  clear ho hT hx hV
  go_enter Try.func13, Try.ntmps13
  go_wp2_with (first | (go_at_call 19; refine (show Calls _ _ _ _ _ from HX.out).mono ?_; clear HX; rintro e w1 ⟨rfl, rfl⟩) | (at_builtin; refine wpT rfl (.tmp 65) (.tmp 66) rfl rfl hS InC [_] 1 1 rfl rfl (fun ys h => inc_open h _ (by omega)) (by omega) ?_; intro a1 c1 w2 hS1; clear hS; have hS := hS1; clear hS1) | (go_at_call 17; refine (ws3 ta tl tc _ InC hS (fun ys zs h1 h2 => inc_app h1 h2) HT.out (by omega) (by omega) (by omega) (by omega)).mono ?_; rintro e w3 ⟨q, a1, m1, c1, rfl, hq1, hq2, hq3, hS1⟩; clear hS; have hS := hS1; clear hS1))
  refine (tape3 ta tl tc _ (by omega) (by omega) hS HT.out).mono ?_
  rintro e w4 ⟨xn, rfl, hxn0, hxn1, rfl⟩
  go_wp2_with fail
  go_loopw [1, 3, 13] (fun v1 v3 v13 wr => ∃ (p' k : Nat) (a1 : Option Addr) (n1 c1 : Nat), v1 = .int .i64 (p' : Int) ∧ v13 = .int .i64 (k : Int) ∧ v3 = .slice a1 n1 c1 ∧ p < p' ∧ (p' ≤ p + 3 ∨ p' ≤ tl + 12 + 10 * r) ∧ k ≤ p' ∧ n1 + 8 * p + 1 ≤ n + 8 * p' ∧ St w1 wr B ao a1 n1 c1 xs InC) (fun v1 _ _ _ => tl - (intOf v1).toNat)
  case atStart => exact ⟨q + 1, 0, a1, m1, c1, by go_num, rfl, rfl, by omega, by omega, by omega, by omega, hS⟩
  case round =>
    clear hS
    obtain ⟨p', k, a1, n1, c1, rfl, rfl, rfl, hp1, hp2, hk, hn1, hS⟩ := hrel
    by_cases hkx : (k : Int) < xn
    · by_cases hpt : p' < tl
      · go_wp2_with (first | (at_builtin; refine wpT rfl (.tmp 94) (.tmp 95) rfl rfl hS InC [_] 1 1 rfl rfl (fun ys h => inc_app h (neu_one _ (by omega))) (by omega) ?_; intro a1 c1 w2 hS1; clear hS; have hS := hS1; clear hS1) | (go_at_call 17; refine (ws3 ta tl tc _ InC hS (fun ys zs h1 h2 => inc_app h1 h2) HT.out (by omega) (by omega) (by omega) (by omega)).mono ?_; rintro e w3 ⟨q, a1, m1, c1, rfl, hq1, hq2, hq3, hS1⟩; clear hS; have hS := hS1; clear hS1) | (go_at_call 13; refine (val3 r HV.out ta tl tc _ _ InC hS (fun ys zs h1 h2 => inc_app h1 h2.1) HT.out (by omega) (by omega) (by omega) (by omega) (by omega) (by omega) (by omega)).mono ?_; rintro e w5 ⟨q, a1, m1, c1, rfl, hq1, hq2, hq3, hS1⟩; clear hS; have hS := hS1; clear hS1))
        all_goals
          go_roundw
          case rel => exact ⟨q, k + 1, a1, m1, c1, rfl, by go_num, rfl, by omega, by omega, by omega, by omega, hS⟩
          case measure => simp [intOf]; omega
      · go_wp2_with (first | (at_builtin; refine wpT rfl (.tmp 120) (.tmp 121) rfl rfl hS Scal [_] 1 1 rfl rfl (fun ys h => inc_close h _ (by omega)) (by omega) ?_; intro a1 c1 w2 hS1; clear hS; have hS := hS1; clear hS1))
        go_ret2
        exact VPost.mk hS (by omega) (by omega) (by omega) (fun _ h => h)
    · go_wp2_with (first | (at_builtin; refine wpT rfl (.tmp 120) (.tmp 121) rfl rfl hS Scal [_] 1 1 rfl rfl (fun ys h => inc_close h _ (by omega)) (by omega) ?_; intro a1 c1 w2 hS1; clear hS; have hS := hS1; clear hS1))
      go_ret2
      exact VPost.mk hS (by omega) (by omega) (by omega) (fun _ h => h)
end Go.Proofs.Qxb6001622a
