/-
  THE WALKS OF buildWS, buildMoreDigits, buildDigits.
-/
import Derived.Test.Qxb6001622aTape
namespace Go.Proofs.Qxb6001622a
open Go.RowKit
set_option linter.unusedVariables false

/-- Nothing to the reader inside a container. -/
def Neu (ys : List Int) : Prop := ∀ d, 1 ≤ d → rd (0, d) ys = (0, d)
/-- Bare bytes alone. -/
def Bar (ys : List Int) : Prop := ∀ y ∈ ys, bare y

theorem neu_nil : Neu [] := fun _ _ => rfl
theorem neu_app {ys zs : List Int} (h1 : Neu ys) (h2 : Neu zs) : Neu (ys ++ zs) := fun d hd => by rw [rd_app, h1 d hd, h2 d hd]
theorem neu_one (c : Int) (h : c = 32 ∨ c = 10 ∨ c = 9 ∨ c = 13 ∨ c = 44 ∨ c = 58) : Neu [c] := by
  intro d hd
  have h0 : d ≠ 0 := by omega
  rcases h with rfl | rfl | rfl | rfl | rfl | rfl <;> simp [rd, stp, h0]
theorem bar_nil : Bar [] := fun _ h => by simp at h
theorem bar_app {ys zs : List Int} (h1 : Bar ys) (h2 : Bar zs) : Bar (ys ++ zs) := fun y hy => by
  rcases List.mem_append.1 hy with h | h
  · exact h1 y h
  · exact h2 y h
theorem bar_one {c : Int} (h : bare c) : Bar [c] := fun y hy => by
  simp at hy; subst hy; exact h
theorem bare_dig {z : Int} (h1 : 48 ≤ z) (h2 : z ≤ 57) : bare z := by unfold bare; omega

set_option maxHeartbeats 2000000 in
theorem ws0 (ta : Option Addr) (tl tc p M B : Nat) (ao : Option Addr) (n cap : Nat) (xs : List Int) (w : World) (hT : Tape w B ta tl) (hp : p ≤ M) (ht : tl ≤ M) (hM : M ≤ 1000000) (hn : n + 8 * p ≤ 100000000) (ho : Own w B 5 .u8 ao n cap xs) (hB : B ≤ w.heap.size) :
    Calls Try.prog 17 #[.slice ta tl tc, .int .i64 (p : Int), .slice ao n cap] w (BPost B w ao n xs p M 1 8 Neu) := by
  have hS : St w w B ao ao n cap xs Neu := St.start ho hB neu_nil
  have HT : Hid (Tape w B ta tl) := hT
  clear ho hT
  go_enter Try.func17, Try.ntmps17
  go_wp2_with (go_at_call 19; refine (tape0 ta tl tc p B _ HT.out (by omega)).mono ?_; rintro e w' ⟨x, rfl, hx0, hx1, rfl⟩)
  go_loopw [1, 2, 9] (fun v1 v2 v9 wr => ∃ (p' k : Nat) (a1 : Option Addr) (n1 c1 : Nat), v1 = .int .i64 (p' : Int) ∧ v9 = .int .i64 (k : Int) ∧ v2 = .slice a1 n1 c1 ∧ p < p' ∧ p' ≤ M + 1 ∧ k ≤ p' ∧ n1 + 8 * p + 8 ≤ n + 8 * p' ∧ St w' wr B ao a1 n1 c1 xs Neu) (fun v1 _ _ _ => tl - (intOf v1).toNat)
  case atStart => exact ⟨p + 1, 0, ao, n, cap, by go_num, rfl, rfl, by omega, by omega, by omega, by omega, hS⟩
  case round =>
    clear hS
    obtain ⟨p', k, a1, n1, c1, rfl, rfl, rfl, hp1, hp2, hk, hn1, hS⟩ := hrel
    by_cases hkx : (k : Int) < x % 4
    · by_cases hpt : p' < tl
      · obtain ⟨tb, to, rfl, y, hy0, hy1, hc⟩ := (HT.out.of hS.bel).at hpt
        go_wp2_with (first | (at_builtin; refine wpT rfl (.tmp 38) (.tmp 39) rfl rfl hS Neu [_] 1 1 rfl rfl (fun _ h => neu_app h (neu_one _ (by omega))) (by omega) ?_; intro a1 c1 w1 hS1; clear hS; have hS := hS1; clear hS1) | (at_builtin; refine wpT rfl (.tmp 43) (.tmp 44) rfl rfl hS Neu [_] 1 1 rfl rfl (fun _ h => neu_app h (neu_one _ (by omega))) (by omega) ?_; intro a1 c1 w1 hS1; clear hS; have hS := hS1; clear hS1) | (at_builtin; refine wpT rfl (.tmp 48) (.tmp 49) rfl rfl hS Neu [_] 1 1 rfl rfl (fun _ h => neu_app h (neu_one _ (by omega))) (by omega) ?_; intro a1 c1 w1 hS1; clear hS; have hS := hS1; clear hS1) | (at_builtin; refine wpT rfl (.tmp 51) (.tmp 52) rfl rfl hS Neu [_] 1 1 rfl rfl (fun _ h => neu_app h (neu_one _ (by omega))) (by omega) ?_; intro a1 c1 w1 hS1; clear hS; have hS := hS1; clear hS1))
        all_goals
          go_roundw
          case rel => exact ⟨p' + 1, k + 1, a1, n1 + 1, c1, by go_num, by go_num, rfl, by omega, by omega, by omega, by omega, hS⟩
          case measure => simp [intOf]; omega
      · go_wp2_with fail
        go_ret2
        exact BPost.mk hS (by omega) (by omega) (by omega) (fun _ h => h)
    · go_wp2_with fail
      go_ret2
      exact BPost.mk hS (by omega) (by omega) (by omega) (fun _ h => h)

set_option maxHeartbeats 2000000 in
theorem more0 (ta : Option Addr) (tl tc p M B : Nat) (ao : Option Addr) (n cap : Nat) (xs : List Int) (w : World) (hT : Tape w B ta tl) (hp : p ≤ M) (ht : tl ≤ M) (hM : M ≤ 1000000) (hn : n + 8 * p ≤ 100000000) (ho : Own w B 5 .u8 ao n cap xs) (hB : B ≤ w.heap.size) :
    Calls Try.prog 24 #[.slice ta tl tc, .int .i64 (p : Int), .slice ao n cap] w (BPost B w ao n xs p M 1 8 Bar) := by
  have hS : St w w B ao ao n cap xs Bar := St.start ho hB bar_nil
  have HT : Hid (Tape w B ta tl) := hT
  clear ho hT
  go_enter Try.func24, Try.ntmps24
  go_wp2_with (go_at_call 19; refine (tape0 ta tl tc p B _ HT.out (by omega)).mono ?_; rintro e w' ⟨x, rfl, hx0, hx1, rfl⟩)
  go_loopw [1, 2, 9] (fun v1 v2 v9 wr => ∃ (p' k : Nat) (a1 : Option Addr) (n1 c1 : Nat), v1 = .int .i64 (p' : Int) ∧ v9 = .int .i64 (k : Int) ∧ v2 = .slice a1 n1 c1 ∧ p < p' ∧ p' ≤ M + 1 ∧ k ≤ p' ∧ n1 + 8 * p + 8 ≤ n + 8 * p' ∧ St w' wr B ao a1 n1 c1 xs Bar) (fun v1 _ _ _ => tl - (intOf v1).toNat)
  case atStart => exact ⟨p + 1, 0, ao, n, cap, by go_num, rfl, rfl, by omega, by omega, by omega, by omega, hS⟩
  case round =>
    clear hS
    obtain ⟨p', k, a1, n1, c1, rfl, rfl, rfl, hp1, hp2, hk, hn1, hS⟩ := hrel
    by_cases hkx : (k : Int) < x
    · by_cases hpt : p' < tl
      · obtain ⟨tb, to, rfl, y, hy0, hy1, hc⟩ := (HT.out.of hS.bel).at hpt
        go_wp2_with (first | (at_builtin; refine wpT rfl (.tmp 27) (.tmp 34) rfl rfl hS Bar [_] 1 1 rfl rfl (fun _ h => bar_app h (bar_one (bare_dig (by omega) (by omega)))) (by omega) ?_; intro a1 c1 w1 hS1; clear hS; have hS := hS1; clear hS1))
        go_roundw
        case rel => exact ⟨p' + 1, k + 1, a1, n1 + 1, c1, by go_num, by go_num, rfl, by omega, by omega, by omega, by omega, hS⟩
        case measure => simp [intOf]; omega
      · go_wp2_with fail
        go_ret2
        exact BPost.mk hS (by omega) (by omega) (by omega) (fun _ h => h)
    · go_wp2_with fail
      go_ret2
      exact BPost.mk hS (by omega) (by omega) (by omega) (fun _ h => h)

section
variable {W w : World} {B : Nat} {a0 ao : Option Addr} {n cap : Nat} {xs : List Int} {G : List Int → Prop}

theorem ws1 (ta : Option Addr) (tl tc p M : Nat) (G' : List Int → Prop) (hS : St W w B a0 ao n cap xs G) (hG : ∀ ys zs, G ys → Neu zs → G' (ys ++ zs)) (hT : Tape W B ta tl) (hp : p ≤ M) (ht : tl ≤ M) (hM : M ≤ 1000000) (hn : n + 8 * p ≤ 100000000) :
    Calls Try.prog 17 #[.slice ta tl tc, .int .i64 (p : Int), .slice ao n cap] w (SPost W B a0 n xs p M 1 8 G') := by
  obtain ⟨ys, hg, ho⟩ := hS.own
  exact (ws0 ta tl tc p M B ao n cap _ w (hT.of hS.bel) hp ht hM hn ho hS.sz).mono fun e w' h => SPost.of hS hg ho h (fun zs hz => hG ys zs hg hz)

theorem more1 (ta : Option Addr) (tl tc p M : Nat) (G' : List Int → Prop) (hS : St W w B a0 ao n cap xs G) (hG : ∀ ys zs, G ys → Bar zs → G' (ys ++ zs)) (hT : Tape W B ta tl) (hp : p ≤ M) (ht : tl ≤ M) (hM : M ≤ 1000000) (hn : n + 8 * p ≤ 100000000) :
    Calls Try.prog 24 #[.slice ta tl tc, .int .i64 (p : Int), .slice ao n cap] w (SPost W B a0 n xs p M 1 8 G') := by
  obtain ⟨ys, hg, ho⟩ := hS.own
  exact (more0 ta tl tc p M B ao n cap _ w (hT.of hS.bel) hp ht hM hn ho hS.sz).mono fun e w' h => SPost.of hS hg ho h (fun zs hz => hG ys zs hg hz)
end

set_option maxHeartbeats 2000000 in
theorem dig0 (ta : Option Addr) (tl tc p M B : Nat) (ao : Option Addr) (n cap : Nat) (xs : List Int) (w : World) (hT : Tape w B ta tl) (hp : p ≤ M) (ht : tl ≤ M) (hM : M ≤ 999999) (hn : n + 8 * p ≤ 99999990) (ho : Own w B 5 .u8 ao n cap xs) (hB : B ≤ w.heap.size) :
    Calls Try.prog 25 #[.slice ta tl tc, .int .i64 (p : Int), .slice ao n cap] w (BPost B w ao n xs p M 2 8 (fun ys => Bar ys ∧ ys ≠ [])) := by
  have hS : St w w B ao ao n cap xs Bar := St.start ho hB bar_nil
  have HT : Hid (Tape w B ta tl) := hT
  have hpc : (p : Int) + 1 = ((p + 1 : Nat) : Int) := by omega
  have HP : Hid ((p : Int) + 1 = ((p + 1 : Nat) : Int)) := hpc
  clear ho hT hpc
  go_enter Try.func25, Try.ntmps25
  go_wp2_with (first | (go_at_call 19; refine (tape0 ta tl tc p B _ HT.out (by omega)).mono ?_; rintro e w' ⟨x, rfl, hx0, hx1, rfl⟩) | (at_builtin; refine wpT rfl (.tmp 8) (.tmp 14) rfl rfl hS (fun ys => Bar ys ∧ ys ≠ []) [_] 1 1 rfl rfl (fun _ h => ⟨bar_app h (bar_one (bare_dig (by omega) (by omega))), by simp⟩) (by omega) ?_; intro a1 c1 w1 hS1; clear hS; have hS := hS1; clear hS1) | (go_at_call 24; rw [HP.out]; refine (more1 ta tl tc (p + 1) (M + 1) (fun ys => Bar ys ∧ ys ≠ []) hS (fun _ _ h1 h2 => ⟨bar_app h1.1 h2, by simp [h1.2]⟩) HT.out (by omega) (by omega) (by omega) (by omega)).mono ?_; rintro e w2 ⟨p', a2, n2, c2, rfl, hq1, hq2, hq3, hS1⟩; clear hS; have hS := hS1; clear hS1))
  go_ret2
  exact BPost.mk hS (by omega) (by omega) (by omega) (fun _ h => h)
end Go.Proofs.Qxb6001622a
