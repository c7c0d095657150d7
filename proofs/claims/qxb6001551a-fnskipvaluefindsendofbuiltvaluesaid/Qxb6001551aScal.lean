/-
  THE WALK OF zzEmitScalar.
-/
import Derived.Test.Qxb6001551aLeaf
namespace Go.Proofs.Qxb6001551a
open Go.RowKit
set_option linter.unusedVariables false

theorem bare_end {W w' : World} {B : Nat} {a0 ao' : Option Addr} {n0 n' cap' : Nat} {xs : List Int} (ys : List Int) (h0 : ys ≠ []) (hb : ∀ y ∈ ys, bare y) (hw : Own w' B 5 .u8 ao' n' cap' (xs ++ ys)) (hf : Eff W w' a0 ao') (h2 : n' ≤ n0 + 20) :
    ScalPost a0 n0 xs B W (.returned (.slice ao' n' cap')) w' :=
  ⟨ao', n', cap', ys, rfl, h2, scal_bare ys h0 hb, hw, hf⟩

set_option maxHeartbeats 1000000 in
theorem scal0 (ao : Option Addr) (n cap : Nat) (xs : List Int) (B : Nat) (w : World) (op q : Int) (hq0 : 0 ≤ q) (hq1 : q ≤ 255) (h : Own w B 5 .u8 ao n cap xs) (hn : n ≤ 1000000000) (hB : B ≤ w.heap.size) :
    Calls Try.prog 23 #[.slice ao n cap, .int .u8 op, .int .u8 q] w (ScalPost ao n xs B w) := by
  go_enter Try.func23, Try.ntmps23
  go_wp2_with (first | (go_at_call 29; refine (str0 ao n cap xs B w q h hn hB).mono ?_; rintro e w' ⟨ao', n', cap', ys, rfl, hp⟩) | (go_at_call 30; refine (num0 ao n cap xs B w (q / 8) (by omega) (by omega) h hn hB).mono ?_; rintro e w' ⟨ao', n', cap', ys, rfl, hp⟩) | (at_builtin; refine wpB rfl (.tmp 21) (.tmp 22) rfl B _ _ _ _ rfl h [_, _, _, _] 4 4 rfl rfl (by omega) hB ?_; intro a1 c1 w1 h1 f1) | (at_builtin; refine wpB rfl (.tmp 26) (.tmp 27) rfl B _ _ _ _ rfl h [_, _, _, _, _] 5 5 rfl rfl (by omega) hB ?_; intro a1 c1 w1 h1 f1) | (at_builtin; refine wpB rfl (.tmp 29) (.tmp 30) rfl B _ _ _ _ rfl h [_, _, _, _] 4 4 rfl rfl (by omega) hB ?_; intro a1 c1 w1 h1 f1))
  · go_ret
    exact ⟨ao', n', cap', ys, rfl, hp⟩
  · go_ret
    exact ⟨ao', n', cap', ys, rfl, hp⟩
  · go_ret
    exact bare_end _ (by simp) (by simp [bare]) h1 f1 (by omega)
  · go_ret
    exact bare_end _ (by simp) (by simp [bare]) h1 f1 (by omega)
  · go_ret
    exact bare_end _ (by simp) (by simp [bare]) h1 f1 (by omega)

end Go.Proofs.Qxb6001551a
