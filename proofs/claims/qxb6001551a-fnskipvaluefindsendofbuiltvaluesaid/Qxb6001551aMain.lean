/-
  THE WALK OF THE LAW ITSELF, out of the contracts.
-/
import Derived.Test.Qxb6001551aBuild
import Derived.OpenShut
namespace Go.Proofs.Qxb6001551a
open Go.RowKit
set_option linter.unusedVariables false

section
variable {w w' : World} {a : Option Addr} {len cap : Nat} {zs : List Int}

theorem Row.le (h : Row w a len cap zs) : len ≤ 9223372036854775807 := by
  rcases h with ⟨_, h, _⟩ | ⟨x, _, h1, h2, _⟩
  · omega
  · unfold maxLen at h2; omega

theorem Row.take (h : Row w a len cap zs) : (zs.take len).length = len := by
  rcases h with ⟨_, h, _⟩ | ⟨x, _, h1, h2, h3, _⟩
  · subst h; simp
  · simp; omega

theorem Row.nothing (h : Row w a len cap zs) : a = none → len = 0 ∧ cap = 0 := by
  rcases h with ⟨_, h, h', _⟩ | ⟨x, e, _⟩
  · exact fun _ => ⟨h, h'⟩
  · intro e'; rw [e] at e'; cases e'

theorem Row.cell (h : Row w a len cap zs) (hb : Below w.heap.size w w') : ∀ ad, a = some ad → ∀ j, j < len → w'.cell? (ad.add j) = some (.int .u8 ((zs.take len).getD j 0)) := by
  intro ad hz j hj
  rcases h with ⟨e, _⟩ | ⟨x, e, h1, h2, h3, h4, _⟩
  · rw [e] at hz; cases hz
  · rw [e] at hz
    obtain rfl := Option.some.inj hz
    have hc := h4 j (by omega)
    rw [hb.cell (World.block_lt_of_cell? w _ hc), hc]
    simp [List.getD, hj]

theorem Row.bytes (h : Row w a len cap zs) (i : Nat) (hi : i < len) : 0 ≤ zs.getD i 0 ∧ zs.getD i 0 ≤ 255 := by
  rcases h with ⟨_, h, _⟩ | ⟨x, e, h1, h2, h3, h4, h5⟩
  · omega
  · have hl : i < zs.length := by omega
    have := h5 (zs.getD i 0) (by simp [List.getD, hl])
    exact bounds_u8 this
end

theorem build0 (w : World) (a : Option Addr) (len cap : Nat) (zs : List Int) (h : Row w a len cap zs) (hm : len ≤ 16384) : Calls Try.prog 14 #[.slice a len cap] w (Built w) := by
  by_cases hl : 0 < len
  · have hby := h.bytes
    rcases h with ⟨_, h, _⟩ | ⟨x, rfl, h1, h2, h3, h4, _⟩
    · omega
    · obtain ⟨b, off, rfl, hc⟩ := ints_at h4 (by omega)
      have hq := hby 0 hl
      have hc0 := hc 0 (by omega)
      simp only [Nat.add_zero] at hc0
      by_cases c3 : 3 ≤ zs.getD 0 0 % 8
      · exact build_scal b off len cap _ w hl hq.1 hq.2 hc0 c3
      · by_cases c2 : zs.getD 0 0 % 8 = 2
        · exact build_two b off len cap _ w hl hq.1 hq.2 hc0 c2
        · exact build_loop b off len cap zs w hl hm (fun i hi => hby i hi) (fun i hi => hc i (by omega)) (by omega)
  · obtain rfl : len = 0 := by omega
    exact build_none a cap w

set_option maxHeartbeats 1000000 in
theorem bytes_yes (a0 a1 a3 : Option Addr) (l0 c0 l1 c1 l3 c3 : Nat) (q : Int) (w : World) (h : l0 + l1 + l3 ≤ 1048576) :
    Calls Try.prog 13 #[.slice a0 l0 c0, .slice a1 l1 c1, .int .u8 q, .slice a3 l3 c3] w fun e w' => e = .returned (.bool true) ∧ w' = w := by
  go_enter Try.func13, Try.ntmps13
  go_wp2
  go_ret
  exact ⟨rfl, rfl⟩

set_option maxHeartbeats 1000000 in
theorem bytes_no (a0 a1 a3 : Option Addr) (l0 c0 l1 c1 l3 c3 : Nat) (q : Int) (w : World) (h : 1048576 < l0 + l1 + l3) (h0 : l0 ≤ 9223372036854775807) (h1 : l1 ≤ 9223372036854775807) (h3 : l3 ≤ 9223372036854775807) :
    Calls Try.prog 13 #[.slice a0 l0 c0, .slice a1 l1 c1, .int .u8 q, .slice a3 l3 c3] w fun e w' => e = .returned (.bool false) ∧ w' = w := by
  go_enter Try.func13, Try.ntmps13
  go_wp2
  all_goals
    go_ret
    exact ⟨rfl, rfl⟩

/-- 'append(out, src...)' to a row of bytes. -/
theorem wpX {w : World} {ops : Array Oper} {rest : List Oper} {o : Oper} {a : Act} {Q : Exit → Act → World → Prop} (hgd : o.guard = none) (s x : Operand)
    (ho : o.op = .call { callee := .builtin .append, args := #[s, x], argTypes := #[22, 22] })
    (B : Nat) (ao : Option Addr) (n cap : Nat) (xs : List Int) (hs : a.eval s = .slice ao n cap) (hown : Own w B 5 .u8 ao n cap xs)
    (so : Option Addr) (ys : List Int) (m c : Nat) (hm : ys.length = m) (hx : a.eval x = .slice so m c) (hnone : so = none → m = 0 ∧ c = 0) (hcell : ∀ ad, so = some ad → ∀ j, j < m → w.cell? (ad.add j) = some (.int .u8 (ys.getD j 0)))
    (hb : n + m ≤ 140737488355328) (hB : B ≤ w.heap.size)
    (h : ∀ ao' cap' w', Own w' B 5 .u8 ao' (n + m) cap' (xs ++ ys) → Eff w w' ao ao' → wpList Try.prog ops Q rest (a.put o.dst (.slice ao' (n + m) cap')) w') :
    wpList Try.prog ops Q (o :: rest) a w := by
  obtain ⟨i, hi, hz0, hz1, hz2⟩ := info_parts info5
  exact wp_app_src hgd s x 22 ho B 5 .u8 i 1 Try.underlying22 hi hz0 hz1 hz2 ao n cap xs hs hown so ys m c hm hx hnone hcell (by omega) hb hB h

def Good (w : World) (e : Ending) (w' : World) : Prop := e = .returned (.bool true) ∧ Below w.heap.size w w'

set_option maxHeartbeats 1000000 in
theorem main_big (a0 a1 a3 : Option Addr) (l0 c0 l1 c1 l3 c3 : Nat) (q : Int) (w : World) (h : 1048576 < l0 + l1 + l3) (h0 : l0 ≤ 9223372036854775807) (h1 : l1 ≤ 9223372036854775807) (h3 : l3 ≤ 9223372036854775807) :
    Calls Try.prog 4 #[.slice a0 l0 c0, .slice a1 l1 c1, .int .u8 q, .slice a3 l3 c3] w (Good w) := by
  go_enter Try.func4, Try.ntmps4
  go_wp2_with (go_at_call 13; refine (bytes_no a0 a1 a3 l0 c0 l1 c1 l3 c3 q w h h0 h1 h3).mono ?_; rintro e w' ⟨rfl, rfl⟩)
  go_ret
  exact ⟨rfl, Below.refl _ _⟩

set_option maxHeartbeats 1000000 in
theorem main_over (a0 a1 a3 : Option Addr) (l0 c0 l1 c1 l3 c3 : Nat) (q : Int) (w : World) (h : l0 + l1 + l3 ≤ 1048576) (h1 : 262144 < l0 ∨ 16384 < l1 ∨ 262144 < l3) :
    Calls Try.prog 4 #[.slice a0 l0 c0, .slice a1 l1 c1, .int .u8 q, .slice a3 l3 c3] w (Good w) := by
  by_cases c0' : 262144 < l0
  · clear h1
    go_enter Try.func4, Try.ntmps4
    go_wp2_with (go_at_call 13; refine (bytes_yes a0 a1 a3 l0 c0 l1 c1 l3 c3 q w h).mono ?_; rintro e w' ⟨rfl, rfl⟩)
    go_ret
    exact ⟨rfl, Below.refl _ _⟩
  · by_cases c1' : 16384 < l1
    · clear h1
      go_enter Try.func4, Try.ntmps4
      go_wp2_with (go_at_call 13; refine (bytes_yes a0 a1 a3 l0 c0 l1 c1 l3 c3 q w h).mono ?_; rintro e w' ⟨rfl, rfl⟩)
      go_ret
      exact ⟨rfl, Below.refl _ _⟩
    · have c3' : 262144 < l3 := by omega
      clear h1
      go_enter Try.func4, Try.ntmps4
      go_wp2_with (go_at_call 13; refine (bytes_yes a0 a1 a3 l0 c0 l1 c1 l3 c3 q w h).mono ?_; rintro e w' ⟨rfl, rfl⟩)
      go_ret
      exact ⟨rfl, Below.refl _ _⟩
end Go.Proofs.Qxb6001551a
