/-
  THE WALK OF buildValue, ITS WAYS WITHOUT A CONTAINER; the contracts over whatever position.
-/
import Derived.Test.Qxb6001622aStr
namespace Go.Proofs.Qxb6001622a
open Go.RowKit
set_option linter.unusedVariables false

/-- As 'SPost', the position an Int; how far it may come said by two arms. -/
def IPost (W : World) (B : Nat) (a0 : Option Addr) (n : Nat) (xs : List Int) (tl : Nat) (pi : Int) (K s : Nat) (G : List Int → Prop) (e : Ending) (w' : World) : Prop :=
  ∃ (p' : Nat) (ao' : Option Addr) (n' cap' : Nat), e = .returned (.tuple #[.int .i64 (p' : Int), .slice ao' n' cap']) ∧ pi < (p' : Int) ∧ ((p' : Int) ≤ pi + (K : Int) ∨ p' ≤ tl + K) ∧ (n' : Int) + 8 * pi + (s : Int) ≤ (n : Int) + 8 * (p' : Int) ∧ St W w' B a0 ao' n' cap' xs G

theorem IPost.of {W w w' : World} {B : Nat} {a0 ao : Option Addr} {n cap : Nat} {xs ys : List Int} {G G' P : List Int → Prop} {p tl K s : Nat} {pi : Int} {e : Ending} (hpi : pi = (p : Int)) (hS : St W w B a0 ao n cap xs G) (hg : G ys) (ho : Own w B 5 .u8 ao n cap (xs ++ ys)) (h : BPost B w ao n (xs ++ ys) p (max p tl) K s P e w')
    (hG : ∀ ys', P ys' → G' (ys ++ ys')) : IPost W B a0 n xs tl pi K s G' e w' := by
  obtain ⟨p', ao', n', cap', ys', rfl, h1, h2, h3, hp, h4, h5⟩ := h
  subst hpi
  refine ⟨p', ao', n', cap', rfl, by omega, ?_, by omega, hS.next hg ho h4 h5 (hG ys' hp)⟩
  by_cases hm : p ≤ tl
  · right; rw [Nat.max_eq_right hm] at h2; omega
  · left; rw [Nat.max_eq_left (by omega)] at h2; omega

section
variable {W w : World} {B : Nat} {a0 ao : Option Addr} {n cap : Nat} {xs : List Int} {G : List Int → Prop}

theorem ws3 (ta : Option Addr) (tl tc : Nat) (pi : Int) (G' : List Int → Prop) (hS : St W w B a0 ao n cap xs G) (hG : ∀ ys zs, G ys → Neu zs → G' (ys ++ zs)) (hT : Tape W B ta tl) (h0 : 0 ≤ pi) (h1 : pi ≤ 500000) (ht : tl ≤ 500000) (hn : (n : Int) + 8 * pi ≤ 20000000) :
    Calls Try.prog 17 #[.slice ta tl tc, .int .i64 pi, .slice ao n cap] w (IPost W B a0 n xs tl pi 1 8 G') := by
  obtain ⟨ys, hg, ho⟩ := hS.own
  obtain ⟨p, hpi⟩ : ∃ p : Nat, pi = (p : Int) := ⟨pi.toNat, by omega⟩
  have := (ws0 ta tl tc p (max p tl) B ao n cap _ w (hT.of hS.bel) (by omega) (by omega) (by omega) (by omega) ho hS.sz).mono fun e w' h => IPost.of hpi hS hg ho h (fun zs hz => hG ys zs hg hz)
  rw [hpi] at this ⊢
  exact this

theorem str3 (ta : Option Addr) (tl tc : Nat) (pi : Int) (G' : List Int → Prop) (hS : St W w B a0 ao n cap xs G) (hG : ∀ ys zs, G ys → Str zs → G' (ys ++ zs)) (hT : Tape W B ta tl) (h0 : 0 ≤ pi) (h1 : pi ≤ 500000) (ht : tl ≤ 500000) (hn : (n : Int) + 8 * pi ≤ 20000000) :
    Calls Try.prog 20 #[.slice ta tl tc, .int .i64 pi, .slice ao n cap] w (IPost W B a0 n xs tl pi 3 0 G') := by
  obtain ⟨ys, hg, ho⟩ := hS.own
  obtain ⟨p, hpi⟩ : ∃ p : Nat, pi = (p : Int) := ⟨pi.toNat, by omega⟩
  have := (strg0 ta tl tc p (max p tl) B ao n cap _ w (hT.of hS.bel) (by omega) (by omega) (by omega) (by omega) ho hS.sz).mono fun e w' h => IPost.of hpi hS hg ho h (fun zs hz => hG ys zs hg hz)
  rw [hpi] at this ⊢
  exact this

theorem num3 (ta : Option Addr) (tl tc : Nat) (pi : Int) (G' : List Int → Prop) (hS : St W w B a0 ao n cap xs G) (hG : ∀ ys zs, G ys → BarN zs → G' (ys ++ zs)) (hT : Tape W B ta tl) (h0 : 0 ≤ pi) (h1 : pi ≤ 500000) (ht : tl ≤ 500000) (hn : (n : Int) + 8 * pi ≤ 20000000) :
    Calls Try.prog 21 #[.slice ta tl tc, .int .i64 pi, .slice ao n cap] w (IPost W B a0 n xs tl pi 7 0 G') := by
  obtain ⟨ys, hg, ho⟩ := hS.own
  obtain ⟨p, hpi⟩ : ∃ p : Nat, pi = (p : Int) := ⟨pi.toNat, by omega⟩
  have := (numb0 ta tl tc p (max p tl) B ao n cap _ w (hT.of hS.bel) (by omega) (by omega) (by omega) (by omega) ho hS.sz).mono fun e w' h => IPost.of hpi hS hg ho h (fun zs hz => hG ys zs hg hz)
  rw [hpi] at this ⊢
  exact this
end

/-- The tape's byte at p (0 behind its end). -/
def TapeIs (w : World) (ta : Option Addr) (tl tc p : Nat) (x : Int) : Prop :=
  Calls Try.prog 19 #[.slice ta tl tc, .int .i64 (p : Int)] w fun e w' => e = .returned (.int .u8 x) ∧ w' = w

set_option maxHeartbeats 400000 in
theorem tape_is (ta : Option Addr) (tl tc p B : Nat) (w : World) (hT : Tape w B ta tl) (hp : p ≤ 1000000000) : ∃ x : Int, 0 ≤ x ∧ x ≤ 255 ∧ TapeIs w ta tl tc p x := by
  by_cases h : p < tl
  · obtain ⟨tb, tf, rfl, x, hx0, hx1, hc⟩ := hT.at h
    refine ⟨x, hx0, hx1, ?_⟩
    clear hT
    unfold TapeIs
    go_enter Try.func19, Try.ntmps19
    go_wp2
    go_ret
    exact ⟨rfl, rfl⟩
  · refine ⟨0, by omega, by omega, ?_⟩
    clear hT
    unfold TapeIs
    go_enter Try.func19, Try.ntmps19
    go_wp2
    go_ret
    exact ⟨rfl, rfl⟩

/-- A value: neutral inside a container; alone: read as one value, or bare bytes. -/
theorem scal_of_str {ys : List Int} (h : Str ys) : Scal ys := ⟨h.1, .inl h.2⟩
theorem scal_of_bar {ys : List Int} (h : BarN ys) : Scal ys := scal_bare ys h.2 h.1

def VPost (B : Nat) (w : World) (ao : Option Addr) (n : Nat) (xs : List Int) (tl p K : Nat) (e : Ending) (w' : World) : Prop :=
  ∃ (p' : Nat) (ao' : Option Addr) (n' cap' : Nat) (ys : List Int), e = .returned (.tuple #[.int .i64 (p' : Int), .slice ao' n' cap']) ∧ p < p' ∧ (p' ≤ p + K ∨ p' ≤ tl + K) ∧ n' + 8 * p ≤ n + 8 * p' ∧ Scal ys ∧ Own w' B 5 .u8 ao' n' cap' (xs ++ ys) ∧ Eff w w' ao ao'

theorem VPost.mk {W w' : World} {B : Nat} {a0 ao' : Option Addr} {n0 n' cap' : Nat} {xs : List Int} {G : List Int → Prop} {p p' tl K : Nat} (hS : St W w' B a0 ao' n' cap' xs G) (h1 : p < p') (h2 : p' ≤ p + K ∨ p' ≤ tl + K) (h3 : n' + 8 * p ≤ n0 + 8 * p') (hG : ∀ ys, G ys → Scal ys) :
    VPost B W a0 n0 xs tl p K (.returned (.tuple #[.int .i64 (p' : Int), .slice ao' n' cap'])) w' := by
  obtain ⟨ys, hg, ho⟩ := hS.own
  exact ⟨p', ao', n', cap', ys, rfl, h1, h2, h3, hG ys hg, ho, hS.eff⟩

section
variable (ta : Option Addr) (tl tc p B : Nat) (ao : Option Addr) (n cap : Nat) (xs : List Int) (w : World) (x di : Int) (K : Nat)

set_option maxRecDepth 20000 in
set_option maxHeartbeats 2000000 in
theorem val_str (hT : Tape w B ta tl) (hx : TapeIs w ta tl tc p x) (h0 : 0 ≤ x) (h1 : x ≤ 255) (hk : x % 6 = 1) (hp : p ≤ 450000) (ht : tl ≤ 450000) (hn : n ≤ 8 * p) (hK : 10 ≤ K) (ho : Own w B 5 .u8 ao n cap xs) (hB : B ≤ w.heap.size) :
    Calls Try.prog 13 #[.slice ta tl tc, .int .i64 (p : Int), .int .i64 di, .slice ao n cap] w (VPost B w ao n xs tl p K) := by
  have hS : St w w B ao ao n cap xs (fun ys => ys = []) := St.start ho hB rfl
  have HT : Hid (Tape w B ta tl) := hT
  have HX : Hid (TapeIs w ta tl tc p x) := hx
  clear ho hT hx
  by_cases hd : 32 ≤ di
  all_goals
    go_enter Try.func13, Try.ntmps13
    go_wp2_with (first | (go_at_call 19; refine (show Calls _ _ _ _ _ from HX.out).mono ?_; rintro e w1 ⟨rfl, rfl⟩) | (go_at_call 20; refine (str3 ta tl tc _ Str hS (fun ys zs h1 h2 => by subst h1; exact h2) HT.out (by omega) (by omega) (by omega) (by omega)).mono ?_; rintro e w2 ⟨q, a1, m1, c1, rfl, hq1, hq2, hq3, hS1⟩; clear hS; have hS := hS1; clear hS1))
    go_ret2
    exact VPost.mk hS (by omega) (by omega) (by omega) (fun _ h => scal_of_str h)

set_option maxRecDepth 20000 in
set_option maxHeartbeats 4000000 in
theorem val_lit (hT : Tape w B ta tl) (hx : TapeIs w ta tl tc p x) (h0 : 0 ≤ x) (h1 : x ≤ 255) (hk : x % 6 = 2) (hp : p ≤ 450000) (ht : tl ≤ 450000) (hn : n ≤ 8 * p) (hK : 10 ≤ K) (ho : Own w B 5 .u8 ao n cap xs) (hB : B ≤ w.heap.size) :
    Calls Try.prog 13 #[.slice ta tl tc, .int .i64 (p : Int), .int .i64 di, .slice ao n cap] w (VPost B w ao n xs tl p K) := by
  have hS : St w w B ao ao n cap xs (fun ys => ys = []) := St.start ho hB rfl
  have HT : Hid (Tape w B ta tl) := hT
  have HX : Hid (TapeIs w ta tl tc p x) := hx
  clear ho hT hx
  have hpc : Hid ((p : Int) + 1 = ((p + 1 : Nat) : Int)) := (show (p : Int) + 1 = ((p + 1 : Nat) : Int) by omega)
  by_cases hd : 32 ≤ di
  all_goals
    go_enter Try.func13, Try.ntmps13
    go_wp2_with (go_at_call 19; refine (show Calls _ _ _ _ _ from HX.out).mono ?_; clear HX; rintro e w1 ⟨rfl, rfl⟩)
    refine (tape3 ta tl tc _ (by omega) (by omega) hS HT.out).mono ?_
    rintro e w2 ⟨y, rfl, hy0, hy1, rfl⟩
    go_wp2_with (first | (at_builtin; refine wpT rfl (.tmp 50) (.tmp 51) rfl rfl hS BarN [_, _, _, _] 4 4 rfl rfl (fun ys h => by subst h; exact ⟨by simp [Bar, bare], by simp⟩) (by omega) ?_; intro a1 c1 w3 hS1; clear hS; have hS := hS1; clear hS1) | (at_builtin; refine wpT rfl (.tmp 55) (.tmp 56) rfl rfl hS BarN [_, _, _, _, _] 5 5 rfl rfl (fun ys h => by subst h; exact ⟨by simp [Bar, bare], by simp⟩) (by omega) ?_; intro a1 c1 w3 hS1; clear hS; have hS := hS1; clear hS1) | (at_builtin; refine wpT rfl (.tmp 58) (.tmp 59) rfl rfl hS BarN [_, _, _, _] 4 4 rfl rfl (fun ys h => by subst h; exact ⟨by simp [Bar, bare], by simp⟩) (by omega) ?_; intro a1 c1 w3 hS1; clear hS; have hS := hS1; clear hS1))
    all_goals
      go_ret2
      refine (show (p : Int) + 1 + 1 = ((p + 2 : Nat) : Int) by omega) ▸ ?_
      exact VPost.mk hS (by omega) (by omega) (by omega) (fun _ h => scal_of_bar h)

set_option maxRecDepth 20000 in
set_option maxHeartbeats 4000000 in
theorem val_num (hT : Tape w B ta tl) (hx : TapeIs w ta tl tc p x) (h0 : 0 ≤ x) (h1 : x ≤ 255) (hk : x % 6 = 0 ∨ x % 6 = 5 ∨ ((x % 6 = 3 ∨ x % 6 = 4) ∧ 32 ≤ di)) (hp : p ≤ 450000) (ht : tl ≤ 450000) (hn : n ≤ 8 * p) (hK : 10 ≤ K) (ho : Own w B 5 .u8 ao n cap xs) (hB : B ≤ w.heap.size) :
    Calls Try.prog 13 #[.slice ta tl tc, .int .i64 (p : Int), .int .i64 di, .slice ao n cap] w (VPost B w ao n xs tl p K) := by
  have hS : St w w B ao ao n cap xs (fun ys => ys = []) := St.start ho hB rfl
  have HT : Hid (Tape w B ta tl) := hT
  have HX : Hid (TapeIs w ta tl tc p x) := hx
  clear ho hT hx
  by_cases hd : 32 ≤ di
  · rcases (show x % 6 = 0 ∨ x % 6 = 5 ∨ x % 6 = 3 ∨ x % 6 = 4 by omega) with hk1 | hk1 | hk1 | hk1
    all_goals
      clear hk
      go_enter Try.func13, Try.ntmps13
      go_wp2_with (first | (go_at_call 19; refine (show Calls _ _ _ _ _ from HX.out).mono ?_; rintro e w1 ⟨rfl, rfl⟩) | (go_at_call 21; refine (num3 ta tl tc _ BarN hS (fun ys zs h1 h2 => by subst h1; exact h2) HT.out (by omega) (by omega) (by omega) (by omega)).mono ?_; rintro e w2 ⟨q, a1, m1, c1, rfl, hq1, hq2, hq3, hS1⟩; clear hS; have hS := hS1; clear hS1))
      go_ret2
      exact VPost.mk hS (by omega) (by omega) (by omega) (fun _ h => scal_of_bar h)
  · rcases (show x % 6 = 0 ∨ x % 6 = 5 by omega) with hk1 | hk1
    all_goals
      clear hk
      go_enter Try.func13, Try.ntmps13
      go_wp2_with (first | (go_at_call 19; refine (show Calls _ _ _ _ _ from HX.out).mono ?_; rintro e w1 ⟨rfl, rfl⟩) | (go_at_call 21; refine (num3 ta tl tc _ BarN hS (fun ys zs h1 h2 => by subst h1; exact h2) HT.out (by omega) (by omega) (by omega) (by omega)).mono ?_; rintro e w2 ⟨q, a1, m1, c1, rfl, hq1, hq2, hq3, hS1⟩; clear hS; have hS := hS1; clear hS1))
      go_ret2
      exact VPost.mk hS (by omega) (by omega) (by omega) (fun _ h => scal_of_bar h)
end
end Go.Proofs.Qxb6001622a
