/-
  THE WALK OF buildNumber.
-/
import Derived.Test.Qxb6001622aWs
import Derived.Deep.DeepCutAuto
namespace Go.Proofs.Qxb6001622a
open Go.RowKit
set_option linter.unusedVariables false

/-- Bare bytes, one at least. -/
def BarN (ys : List Int) : Prop := Bar ys ∧ ys ≠ []
theorem barN_app {ys zs : List Int} (h1 : BarN ys) (h2 : Bar zs) : BarN (ys ++ zs) := ⟨bar_app h1.1 h2, by simp [h1.2]⟩
theorem barN_of {ys zs : List Int} (h1 : Bar ys) (h2 : BarN zs) : BarN (ys ++ zs) := ⟨bar_app h1 h2.1, by simp [h2.2]⟩
theorem barN_one {c : Int} (h : bare c) : BarN [c] := ⟨bar_one h, by simp⟩

section
variable {W w : World} {B : Nat} {a0 ao : Option Addr} {n cap : Nat} {xs : List Int} {G : List Int → Prop}

theorem tape2 (ta : Option Addr) (tl tc : Nat) (pi : Int) (p : Nat) (hpi : pi = (p : Int)) (hS : St W w B a0 ao n cap xs G) (hT : Tape W B ta tl) (hp : p ≤ 1000000000) :
    Calls Try.prog 19 #[.slice ta tl tc, .int .i64 pi] w fun e w' => ∃ x : Int, e = .returned (.int .u8 x) ∧ 0 ≤ x ∧ x ≤ 255 ∧ w' = w := by
  subst hpi
  exact tape0 ta tl tc p B w (hT.of hS.bel) hp

theorem ws2 (ta : Option Addr) (tl tc : Nat) (pi : Int) (p M : Nat) (hpi : pi = (p : Int)) (G' : List Int → Prop) (hS : St W w B a0 ao n cap xs G) (hG : ∀ ys zs, G ys → Neu zs → G' (ys ++ zs)) (hT : Tape W B ta tl) (hp : p ≤ M) (ht : tl ≤ M) (hM : M ≤ 1000000) (hn : n + 8 * p ≤ 100000000) :
    Calls Try.prog 17 #[.slice ta tl tc, .int .i64 pi, .slice ao n cap] w (SPost W B a0 n xs p M 1 8 G') := by
  subst hpi
  exact ws1 ta tl tc p M G' hS hG hT hp ht hM hn

theorem more2 (ta : Option Addr) (tl tc : Nat) (pi : Int) (p M : Nat) (hpi : pi = (p : Int)) (G' : List Int → Prop) (hS : St W w B a0 ao n cap xs G) (hG : ∀ ys zs, G ys → Bar zs → G' (ys ++ zs)) (hT : Tape W B ta tl) (hp : p ≤ M) (ht : tl ≤ M) (hM : M ≤ 1000000) (hn : n + 8 * p ≤ 100000000) :
    Calls Try.prog 24 #[.slice ta tl tc, .int .i64 pi, .slice ao n cap] w (SPost W B a0 n xs p M 1 8 G') := by
  subst hpi
  exact more1 ta tl tc p M G' hS hG hT hp ht hM hn

theorem dig2 (ta : Option Addr) (tl tc : Nat) (pi : Int) (p M : Nat) (hpi : pi = (p : Int)) (G' : List Int → Prop) (hS : St W w B a0 ao n cap xs G) (hG : ∀ ys zs, G ys → BarN zs → G' (ys ++ zs)) (hT : Tape W B ta tl) (hp : p ≤ M) (ht : tl ≤ M) (hM : M ≤ 999999) (hn : n + 8 * p ≤ 99999990) :
    Calls Try.prog 25 #[.slice ta tl tc, .int .i64 pi, .slice ao n cap] w (SPost W B a0 n xs p M 2 8 G') := by
  subst hpi
  obtain ⟨ys, hg, ho⟩ := hS.own
  exact (dig0 ta tl tc p M B ao n cap _ w (hT.of hS.bel) hp ht hM hn ho hS.sz).mono fun e w' h => SPost.of hS hg ho h (fun zs hz => hG ys zs hg hz)
end

set_option maxRecDepth 20000 in
set_option maxHeartbeats 4000000 in
theorem numb0 (ta : Option Addr) (tl tc p M B : Nat) (ao : Option Addr) (n cap : Nat) (xs : List Int) (w : World) (hT : Tape w B ta tl) (hp : p ≤ M) (ht : tl ≤ M) (hM : M ≤ 500000) (hn : n + 8 * p ≤ 20000000) (ho : Own w B 5 .u8 ao n cap xs) (hB : B ≤ w.heap.size) :
    Calls Try.prog 21 #[.slice ta tl tc, .int .i64 (p : Int), .slice ao n cap] w (BPost B w ao n xs p M 7 0 BarN) := by
  have hS : St w w B ao ao n cap xs Bar := St.start ho hB bar_nil
  have HT : Hid (Tape w B ta tl) := hT
  clear ho hT
  go_enter Try.func21, Try.ntmps21
  go_upto_if 17 with (go_at_call 19; refine (tape2 ta tl tc _ p (by omega) hS HT.out (by omega)).mono ?_; rintro e w1 ⟨x, rfl, hx0, hx1, rfl⟩)
  go_cut [1, 2] (fun v1 v2 wc => ∃ (p1 : Nat) (a1 : Option Addr) (n1 c1 : Nat), v1 = .int .i64 (p1 : Int) ∧ v2 = .slice a1 n1 c1 ∧ p < p1 ∧ p1 ≤ M + 1 ∧ n1 + 8 * p + 7 ≤ n + 8 * p1 ∧ St w1 wc B ao a1 n1 c1 xs Bar)
  case first =>
    go_wp2_with (at_builtin; refine wpT rfl (.tmp 18) (.tmp 19) rfl rfl hS Bar [_] 1 1 rfl rfl (fun _ h => bar_app h (bar_one (by unfold bare; omega))) (by omega) ?_; intro a1 c1 w2 hS1; clear hS; have hS := hS1; clear hS1)
    · go_meet
      case rel => exact ⟨p + 1, a1, n + 1, c1, by go_num, rfl, by omega, by omega, by omega, hS⟩
    · go_meet
      case rel => exact ⟨p + 1, ao, n, cap, by go_num, rfl, by omega, by omega, by omega, hS⟩
  case rest =>
    clear hS
    obtain ⟨p1, a1, n1, c1, rfl, rfl, hp1, hp2, hn1, hS⟩ := hcut
    go_upto_if 23 with fail
    go_cut [1, 2] (fun v1 v2 wd => ∃ (p2 : Nat) (a2 : Option Addr) (n2 c2 : Nat), v1 = .int .i64 (p2 : Int) ∧ v2 = .slice a2 n2 c2 ∧ p < p2 ∧ p2 ≤ M + 3 ∧ n2 + 8 * p + 6 ≤ n + 8 * p2 ∧ St w1 wd B ao a2 n2 c2 xs BarN)
    case first =>
      go_wp2_with (first | (go_at_call 19; refine (tape2 ta tl tc _ p1 (by omega) hS HT.out (by omega)).mono ?_; rintro e w2 ⟨y, rfl, hy0, hy1, rfl⟩) | (at_builtin; refine wpT rfl (.tmp 24) (.tmp 25) rfl rfl hS BarN [_] 1 1 rfl rfl (fun _ h => barN_of h (barN_one (by unfold bare; omega))) (by omega) ?_; intro a2 c2 w2 hS1; clear hS; have hS := hS1; clear hS1) | (at_builtin; refine wpT rfl (.tmp 27) (.tmp 33) rfl rfl hS BarN [_] 1 1 rfl rfl (fun _ h => barN_of h (barN_one (by unfold bare; omega))) (by omega) ?_; intro a2 c2 w2 hS1; clear hS; have hS := hS1; clear hS1) | (go_at_call 24; refine (more2 ta tl tc _ (p1 + 1) (M + 2) (by omega) BarN hS (fun _ _ h1 h2 => barN_app h1 h2) HT.out (by omega) (by omega) (by omega) (by omega)).mono ?_; rintro e w3 ⟨p3, a3, n3, c3, rfl, hq1, hq2, hq3, hS1⟩; clear hS; have hS := hS1; clear hS1))
      · go_meet
        case rel => exact ⟨p1, a2, n1 + 1, c2, rfl, rfl, by omega, by omega, by omega, hS⟩
      · go_meet
        case rel => exact ⟨p3, a3, n3, c3, rfl, rfl, by omega, by omega, by omega, hS⟩
    case rest =>
      clear hS
      obtain ⟨p2, a2, n2, c2, rfl, rfl, hp3, hp4, hn2, hS⟩ := hcut
      go_upto_if 46 with fail
      go_cut [1, 2] (fun v1 v2 we => ∃ (p3 : Nat) (a3 : Option Addr) (n3 c3 : Nat), v1 = .int .i64 (p3 : Int) ∧ v2 = .slice a3 n3 c3 ∧ p < p3 ∧ p3 ≤ M + 5 ∧ n3 + 8 * p + 5 ≤ n + 8 * p3 ∧ St w1 we B ao a3 n3 c3 xs BarN)
      case first =>
        go_wp2_with (first | (at_builtin; refine wpT rfl (.tmp 47) (.tmp 48) rfl rfl hS BarN [_] 1 1 rfl rfl (fun _ h => barN_app h (bar_one (by unfold bare; omega))) (by omega) ?_; intro a3 c3 w2 hS1; clear hS; have hS := hS1; clear hS1) | (go_at_call 25; refine (dig2 ta tl tc _ p2 (M + 3) (by omega) BarN hS (fun _ _ h1 h2 => barN_app h1 h2.1) HT.out (by omega) (by omega) (by omega) (by omega)).mono ?_; rintro e w3 ⟨p3, a3, n3, c3, rfl, hq1, hq2, hq3, hS1⟩; clear hS; have hS := hS1; clear hS1))
        · go_meet
          case rel => exact ⟨p3, a3, n3, c3, rfl, rfl, by omega, by omega, by omega, hS⟩
        · go_meet
          case rel => exact ⟨p2, a2, n2, c2, rfl, rfl, by omega, by omega, by omega, hS⟩
      case rest =>
        clear hS
        obtain ⟨p3, a3, n3, c3, rfl, rfl, hp5, hp6, hn3, hS⟩ := hcut
        go_wp2_with (first | (at_builtin; refine wpT rfl (.tmp 63) (.tmp 64) rfl rfl hS BarN [_] 1 1 rfl rfl (fun _ h => barN_app h (bar_one (by unfold bare; omega))) (by omega) ?_; intro a3 c3 w2 hS1; clear hS; have hS := hS1; clear hS1) | (at_builtin; refine wpT rfl (.tmp 66) (.tmp 67) rfl rfl hS BarN [_] 1 1 rfl rfl (fun _ h => barN_app h (bar_one (by unfold bare; omega))) (by omega) ?_; intro a3 c3 w2 hS1; clear hS; have hS := hS1; clear hS1) | (at_builtin; refine wpT rfl (.tmp 74) (.tmp 75) rfl rfl hS BarN [_] 1 1 rfl rfl (fun _ h => barN_app h (bar_one (by unfold bare; omega))) (by omega) ?_; intro a3 c3 w3 hS1; clear hS; have hS := hS1; clear hS1) | (at_builtin; refine wpT rfl (.tmp 79) (.tmp 80) rfl rfl hS BarN [_] 1 1 rfl rfl (fun _ h => barN_app h (bar_one (by unfold bare; omega))) (by omega) ?_; intro a3 c3 w3 hS1; clear hS; have hS := hS1; clear hS1) | (go_at_call 25; refine (dig2 ta tl tc _ p3 (M + 5) (by omega) BarN hS (fun _ _ h1 h2 => barN_app h1 h2.1) HT.out (by omega) (by omega) (by omega) (by omega)).mono ?_; rintro e w4 ⟨p4, a4, n4, c4, rfl, hq1, hq2, hq3, hS1⟩; clear hS; have hS := hS1; clear hS1))
        all_goals
          go_ret2
          exact BPost.mk hS (by omega) (by omega) (by omega) (fun _ h => h)
end Go.Proofs.Qxb6001622a
