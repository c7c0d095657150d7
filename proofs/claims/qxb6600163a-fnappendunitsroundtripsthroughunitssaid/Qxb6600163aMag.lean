/-
  THE WALK OF magnitude.
-/
import Derived.Test.Qxb6600163aRows
import Derived.Test.Qxb6600163aOwn
import Derived.Test.Qxb6600163aPlain
namespace Go.Proofs.Qxb6600163a
open Go.RowKit
set_option linter.unusedVariables false

theorem ret_int {k : IntKind} {a b : Int} (h : a = b) : Ending.returned (.int k a) = .returned (.int k b) := by rw [h]

theorem wrap_nn (c : Nat) (h0 : 0 < c) (h : c ≤ 9223372036854775808) : IntKind.u64.wrap (-IntKind.u64.wrap (-(c : Int))) = (c : Int) := by
  simp only [IntKind.wrap, IntKind.bits, IntKind.signed]
  simp
  omega

set_option maxHeartbeats 400000 in
theorem mag_pos (c : Nat) (w : World) (h : c ≤ 9223372036854775807) : Calls Try.prog 13 #[.int .i64 (c : Int)] w fun e w' => e = .returned (.int .u64 (c : Int)) ∧ w' = w := by
  go_enter Try.func13, Try.ntmps13
  go_wp2
  go_ret
  exact ⟨rfl, rfl⟩

set_option maxHeartbeats 400000 in
theorem mag_neg (c : Nat) (w : World) (h0 : 0 < c) (h : c ≤ 9223372036854775808) : Calls Try.prog 13 #[.int .i64 (-(c : Int))] w fun e w' => e = .returned (.int .u64 (c : Int)) ∧ w' = w := by
  have H : Hid (IntKind.u64.wrap (-IntKind.u64.wrap (-(c : Int))) = (c : Int)) := wrap_nn c h0 h
  go_enter Try.func13, Try.ntmps13
  go_wp2
  go_ret
  exact ⟨ret_int H.out, rfl⟩

/-- The number u is c, or -c. -/
def IsMag (u : Int) (c : Nat) : Prop := (u = (c : Int) ∧ c ≤ 9223372036854775807) ∨ (u = -(c : Int) ∧ 0 < c ∧ c ≤ 9223372036854775808)

theorem mag0 (u : Int) (c : Nat) (w : World) (h : IsMag u c) : Calls Try.prog 13 #[.int .i64 u] w fun e w' => e = .returned (.int .u64 (c : Int)) ∧ w' = w := by
  rcases h with ⟨rfl, h⟩ | ⟨rfl, h0, h⟩
  · exact mag_pos c w h
  · exact mag_neg c w h0 h

theorem IsMag.le {u : Int} {c : Nat} (h : IsMag u c) : c ≤ 9223372036854775808 := by
  rcases h with ⟨_, h⟩ | ⟨_, _, h⟩ <;> omega
end Go.Proofs.Qxb6600163a
