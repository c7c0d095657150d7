/-
  THE WALK OF buildValue, ITS WAY INTO AN OBJECT; and the whole, level by level.
-/
import Derived.Test.Qxb6001622aArr
namespace Go.Proofs.Qxb6001622a
open Go.RowKit
set_option linter.unusedVariables false

set_option maxRecDepth 20000 in
set_option maxHeartbeats 8000000 in
theorem val_obj (r : Nat) (hV : ValOK r) (hr : r ≤ 100) (ta : Option Addr) (tl tc p B : Nat) (ao : Option Addr) (n cap : Nat) (xs : List Int) (w : World) (x di : Int) (hd0 : 0 ≤ di) (hd1 : di < 32) (hd2 : 32 ≤ di + 1 + (r : Int))
    (hT : Tape w B ta tl) (hx : TapeIs w ta tl tc p x) (h0 : 0 ≤ x) (h1 : x ≤ 255) (hk : x % 6 = 4) (hp : p ≤ 100000) (ht : tl ≤ 70000) (hn : n ≤ 8 * p) (ho : Own w B 5 .u8 ao n cap xs) (hB : B ≤ w.heap.size) :
    Calls Try.prog 13 #[.slice ta tl tc, .int .i64 (p : Int), .int .i64 di, .slice ao n cap] w (VPost B w ao n xs tl p (20 + 10 * r)) := by
  have hS : St w w B ao ao n cap xs (fun ys => ys = []) := St.start ho hB rfl
  have HT : Hid (Tape w B ta tl) := hT
  have HX : Hid (TapeIs w ta tl tc p x) := hx
  have HV : Hid (ValOK r) := hV
  clear ho hT hx hV
  go_enter Try.func13, Try.ntmps13
  go_wp2_with (first | (go_at_call 19; refine (show Calls _ _ _ _ _ from HX.out).mono ?_; clear HX; rintro e w1 ⟨rfl, rfl⟩) | (at_builtin; refine wpT rfl (.tmp 127) (.tmp 128) rfl rfl hS InC [_] 1 1 rfl rfl (fun ys h => inc_open h _ (by omega)) (by omega) ?_; intro a1 c1 w2 hS1; clear hS; have hS := hS1; clear hS1) | (go_at_call 17; refine (ws3 ta tl tc _ InC hS (fun ys zs h1 h2 => inc_app h1 h2) HT.out (by omega) (by omega) (by omega) (by omega)).mono ?_; rintro e w3 ⟨q, a1, m1, c1, rfl, hq1, hq2, hq3, hS1⟩; clear hS; have hS := hS1; clear hS1))
  refine (tape3 ta tl tc _ (by omega) (by omega) hS HT.out).mono ?_
  rintro e w4 ⟨xn, rfl, hxn0, hxn1, rfl⟩
  go_wp2_with fail
  go_loopw [1, 3, 15] (fun v1 v3 v15 wr => ∃ (p' k : Nat) (a1 : Option Addr) (n1 c1 : Nat), v1 = .int .i64 (p' : Int) ∧ v15 = .int .i64 (k : Int) ∧ v3 = .slice a1 n1 c1 ∧ p < p' ∧ (p' ≤ p + 3 ∨ p' ≤ tl + 17 + 10 * r) ∧ k ≤ p' ∧ n1 + 8 * p + 1 ≤ n + 8 * p' ∧ St w1 wr B ao a1 n1 c1 xs InC) (fun v1 _ _ _ => tl - (intOf v1).toNat)
  case atStart => exact ⟨q + 1, 0, a1, m1, c1, by go_num, rfl, rfl, by omega, by omega, by omega, by omega, hS⟩
  case round =>
    clear hS
    obtain ⟨p', k, a1, n1, c1, rfl, rfl, rfl, hp1, hp2, hk, hn1, hS⟩ := hrel
    by_cases hkx : (k : Int) < xn
    · by_cases hpt : p' < tl
      · go_wp2_with (first | (at_builtin; refine wpT rfl (.tmp 156) (.tmp 157) rfl rfl hS InC [_] 1 1 rfl rfl (fun ys h => inc_app h (neu_one _ (by omega))) (by omega) ?_; intro a1 c1 w2 hS1; clear hS; have hS := hS1; clear hS1) | (go_at_call 17; refine (ws3 ta tl tc _ InC hS (fun ys zs h1 h2 => inc_app h1 h2) HT.out (by omega) (by omega) (by omega) (by omega)).mono ?_; rintro e w3 ⟨q, a1, m1, c1, rfl, hq1, hq2, hq3, hS1⟩; clear hS; have hS := hS1; clear hS1) | (at_builtin; refine wpT rfl (.tmp 180) (.tmp 181) rfl rfl hS InC [_] 1 1 rfl rfl (fun ys h => inc_app h (neu_one _ (by omega))) (by omega) ?_; intro a1 c1 w2 hS1; clear hS; have hS := hS1; clear hS1) | (go_at_call 20; refine (str3 ta tl tc _ InC hS (fun ys zs h1 h2 => inc_app h1 h2.1) HT.out (by omega) (by omega) (by omega) (by omega)).mono ?_; rintro e w3 ⟨q, a1, m1, c1, rfl, hq1, hq2, hq3, hS1⟩; clear hS; have hS := hS1; clear hS1) | (go_at_call 13; refine (val3 r HV.out ta tl tc _ _ InC hS (fun ys zs h1 h2 => inc_app h1 h2.1) HT.out (by omega) (by omega) (by omega) (by omega) (by omega) (by omega) (by omega)).mono ?_; rintro e w5 ⟨q, a1, m1, c1, rfl, hq1, hq2, hq3, hS1⟩; clear hS; have hS := hS1; clear hS1))
        all_goals
          go_roundw
          case rel => exact ⟨q, k + 1, a1, m1, c1, rfl, by go_num, rfl, by omega, by omega, by omega, by omega, hS⟩
          case measure => simp [intOf]; omega
      · go_wp2_with (first | (at_builtin; refine wpT rfl (.tmp 206) (.tmp 207) rfl rfl hS Scal [_] 1 1 rfl rfl (fun ys h => inc_close h _ (by omega)) (by omega) ?_; intro a1 c1 w2 hS1; clear hS; have hS := hS1; clear hS1))
        go_ret2
        exact VPost.mk hS (by omega) (by omega) (by omega) (fun _ h => h)
    · go_wp2_with (first | (at_builtin; refine wpT rfl (.tmp 206) (.tmp 207) rfl rfl hS Scal [_] 1 1 rfl rfl (fun ys h => inc_close h _ (by omega)) (by omega) ?_; intro a1 c1 w2 hS1; clear hS; have hS := hS1; clear hS1))
      go_ret2
      exact VPost.mk hS (by omega) (by omega) (by omega) (fun _ h => h)

theorem VPost.wide {B : Nat} {w w' : World} {ao : Option Addr} {n : Nat} {xs : List Int} {tl p K K' : Nat} {e : Ending} (h : VPost B w ao n xs tl p K e w') (hK : K ≤ K') : VPost B w ao n xs tl p K' e w' := by
  obtain ⟨p', ao', n', cap', ys, h1, h2, h3, h4⟩ := h
  exact ⟨p', ao', n', cap', ys, h1, h2, by omega, h4⟩

theorem val_flat (ta : Option Addr) (tl tc p B : Nat) (ao : Option Addr) (n cap : Nat) (xs : List Int) (w : World) (x di : Int) (K : Nat) (hT : Tape w B ta tl) (hx : TapeIs w ta tl tc p x) (h0 : 0 ≤ x) (h1 : x ≤ 255) (hk : x % 6 ≤ 2 ∨ x % 6 = 5 ∨ 32 ≤ di) (hp : p ≤ 450000) (ht : tl ≤ 450000) (hn : n ≤ 8 * p) (hK : 10 ≤ K) (ho : Own w B 5 .u8 ao n cap xs) (hB : B ≤ w.heap.size) :
    Calls Try.prog 13 #[.slice ta tl tc, .int .i64 (p : Int), .int .i64 di, .slice ao n cap] w (VPost B w ao n xs tl p K) := by
  by_cases k1 : x % 6 = 1
  · exact val_str ta tl tc p B ao n cap xs w x di K hT hx h0 h1 k1 hp ht hn hK ho hB
  · by_cases k2 : x % 6 = 2
    · exact val_lit ta tl tc p B ao n cap xs w x di K hT hx h0 h1 k2 hp ht hn hK ho hB
    · exact val_num ta tl tc p B ao n cap xs w x di K hT hx h0 h1 (by omega) hp ht hn hK ho hB

theorem val_all : ∀ r : Nat, r ≤ 100 → ValOK r
  | 0, _ => by
    intro ta tl tc p B ao n cap xs w di hT hd0 hd1 hd2 hp ht hn ho hB
    obtain ⟨x, h0, h1, hx⟩ := tape_is ta tl tc p B w hT (by omega)
    exact val_flat ta tl tc p B ao n cap xs w x di _ hT hx h0 h1 (by omega) (by omega) (by omega) hn (by omega) ho hB
  | r + 1, hr => by
    have ih := val_all r (by omega)
    intro ta tl tc p B ao n cap xs w di hT hd0 hd1 hd2 hp ht hn ho hB
    obtain ⟨x, h0, h1, hx⟩ := tape_is ta tl tc p B w hT (by omega)
    by_cases hf : x % 6 ≤ 2 ∨ x % 6 = 5 ∨ 32 ≤ di
    · exact val_flat ta tl tc p B ao n cap xs w x di _ hT hx h0 h1 hf (by omega) (by omega) hn (by omega) ho hB
    · by_cases k3 : x % 6 = 3
      · exact (val_arr r ih (by omega) ta tl tc p B ao n cap xs w x di hd0 (by omega) (by omega) hT hx h0 h1 k3 hp ht hn ho hB).mono fun e w' h => h.wide (by omega)
      · exact (val_obj r ih (by omega) ta tl tc p B ao n cap xs w x di hd0 (by omega) (by omega) hT hx h0 h1 (by omega) hp ht hn ho hB).mono fun e w' h => h.wide (by omega)
end Go.Proofs.Qxb6001622a
