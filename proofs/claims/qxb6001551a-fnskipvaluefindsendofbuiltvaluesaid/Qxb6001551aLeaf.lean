/-
  THE WALKS OF THE BUILDER's SMALL FUNCTIONS: zzOpen, zzClose, zzAppendKey, zzEmitString, zzEmitNumber, zzEmitScalar.
-/
import Derived.Test.Qxb6001551aRows
import Derived.Test.Qxb6001551aOwn
import Derived.Test.Qxb6001551aPlain
namespace Go.Proofs.Qxb6001551a
open Go.RowKit
set_option linter.unusedVariables false

theorem info5 : (Try.prog.info? 5).map (fun i => (i.zero, i.size, i.bytes)) = some (some (.int .u8 0), 1, 1) := by kernel_rfl
theorem info3 : (Try.prog.info? 3).map (fun i => (i.zero, i.size, i.bytes)) = some (some (.int .i64 0), 1, 8) := by kernel_rfl

/-- 'append' to a row of bytes. -/
theorem wpB {w0 : World} {ops : Array Oper} {rest : List Oper} {o : Oper} {a : Act} {Q : Exit → Act → World → Prop} (hgd : o.guard = none) (s x : Operand)
    (ho : o.op = .call { callee := .builtin .append, args := #[s, x], argTypes := #[22, 22] })
    (B : Nat) (ao : Option Addr) (n cap : Nat) (xs : List Int) (hs : a.eval s = .slice ao n cap) (hown : Own w0 B 5 .u8 ao n cap xs)
    (ys : List Int) (m c : Nat) (hm : ys.length = m) (hx : a.eval x = .slice (some ⟨w0.heap.size, 0, none⟩) m c) (hb : n + m ≤ 140737488355328) (hB : B ≤ w0.heap.size)
    (h : ∀ ao' cap' w', Own w' B 5 .u8 ao' (n + m) cap' (xs ++ ys) → Eff w0 w' ao ao' → wpList Try.prog ops Q rest (a.put o.dst (.slice ao' (n + m) cap')) w') :
    wpList Try.prog ops Q (o :: rest) a (w0.alloc (.cells (ys.map (Value.int .u8)).toArray 5)) := by
  obtain ⟨i, hi, hz0, hz1, hz2⟩ := info_parts info5
  exact wp_app hgd s x 22 ho B 5 .u8 i 1 Try.underlying22 hi hz0 hz1 hz2 ao n cap xs hs hown ys m c hm hx (by omega) hb hB h

/-- 'append' to a row of ints. -/
theorem wpI {w0 : World} {ops : Array Oper} {rest : List Oper} {o : Oper} {a : Act} {Q : Exit → Act → World → Prop} (hgd : o.guard = none) (s x : Operand)
    (ho : o.op = .call { callee := .builtin .append, args := #[s, x], argTypes := #[38, 38] })
    (B : Nat) (ao : Option Addr) (n cap : Nat) (xs : List Int) (hs : a.eval s = .slice ao n cap) (hown : Own w0 B 3 .i64 ao n cap xs)
    (ys : List Int) (m c : Nat) (hm : ys.length = m) (hx : a.eval x = .slice (some ⟨w0.heap.size, 0, none⟩) m c) (hb : n + m ≤ 17592186044416) (hB : B ≤ w0.heap.size)
    (h : ∀ ao' cap' w', Own w' B 3 .i64 ao' (n + m) cap' (xs ++ ys) → Eff w0 w' ao ao' → wpList Try.prog ops Q rest (a.put o.dst (.slice ao' (n + m) cap')) w') :
    wpList Try.prog ops Q (o :: rest) a (w0.alloc (.cells (ys.map (Value.int .i64)).toArray 3)) := by
  obtain ⟨i, hi, hz0, hz1, hz2⟩ := info_parts info3
  exact wp_app hgd s x 38 ho B 3 .i64 i 8 Try.underlying38 hi hz0 hz1 hz2 ao n cap xs hs hown ys m c hm hx (by omega) (by omega) hB h

section
variable (ao : Option Addr) (n cap : Nat) (xs : List Int) (B : Nat) (w : World)

set_option maxHeartbeats 400000 in
theorem open0 (q : Int) (h : Own w B 5 .u8 ao n cap xs) (hn : n ≤ 1000000000) (hB : B ≤ w.heap.size) :
    Calls Try.prog 24 #[.slice ao n cap, .int .u8 q] w fun e w' => ∃ ao' cap' y, e = .returned (.slice ao' (n + 1) cap') ∧ (y = 91 ∨ y = 123) ∧ Own w' B 5 .u8 ao' (n + 1) cap' (xs ++ [y]) ∧ Eff w w' ao ao' := by
  go_enter Try.func24, Try.ntmps24
  go_wp2_with (first | (at_builtin; refine wpB rfl _ _ rfl B _ _ _ _ rfl h [_] 1 1 rfl rfl (by omega) hB ?_; intro ao' cap' w' hown' heff'))
  · go_ret
    exact ⟨ao', cap', 91, rfl, by simp, by assumption, by assumption⟩
  · go_ret
    exact ⟨ao', cap', 123, rfl, by simp, by assumption, by assumption⟩

set_option maxHeartbeats 400000 in
theorem close0 (q : Int) (h : Own w B 5 .u8 ao n cap xs) (hn : n ≤ 1000000000) (hB : B ≤ w.heap.size) :
    Calls Try.prog 25 #[.slice ao n cap, .int .u8 q] w fun e w' => ∃ ao' cap' y, e = .returned (.slice ao' (n + 1) cap') ∧ (y = 93 ∨ y = 125) ∧ Own w' B 5 .u8 ao' (n + 1) cap' (xs ++ [y]) ∧ Eff w w' ao ao' := by
  go_enter Try.func25, Try.ntmps25
  go_wp2_with (first | (at_builtin; refine wpB rfl _ _ rfl B _ _ _ _ rfl h [_] 1 1 rfl rfl (by omega) hB ?_; intro ao' cap' w' hown' heff'))
  · go_ret
    exact ⟨ao', cap', 93, rfl, by simp, by assumption, by assumption⟩
  · go_ret
    exact ⟨ao', cap', 125, rfl, by simp, by assumption, by assumption⟩

set_option maxHeartbeats 400000 in
theorem key0 (h : Own w B 5 .u8 ao n cap xs) (hn : n ≤ 1000000000) (hB : B ≤ w.heap.size) :
    Calls Try.prog 26 #[.slice ao n cap] w fun e w' => ∃ ao' cap', e = .returned (.slice ao' (n + 8) cap') ∧ Own w' B 5 .u8 ao' (n + 8) cap' (xs ++ [34, 107, 92, 34, 125, 34, 58, 32]) ∧ Eff w w' ao ao' := by
  go_enter Try.func26, Try.ntmps26
  go_wp2_with (first | (at_builtin; refine wpB rfl _ _ rfl B _ _ _ _ rfl h [_, _, _, _, _, _, _, _] 8 8 rfl rfl (by omega) hB ?_; intro ao' cap' w' hown' heff'))
  go_ret
  exact ⟨ao', cap', rfl, by assumption, by assumption⟩

/-- What a scalar's writer leaves. -/
def ScalPost (ao : Option Addr) (n : Nat) (xs : List Int) (B : Nat) (w : World) (e : Ending) (w' : World) : Prop :=
  ∃ ao' n' cap' ys, e = .returned (.slice ao' n' cap') ∧ n' ≤ n + 20 ∧ Scal ys ∧ Own w' B 5 .u8 ao' n' cap' (xs ++ ys) ∧ Eff w w' ao ao'

theorem own_eq {w : World} {B : Nat} {e : TypeId} {k : IntKind} {ao : Option Addr} {n cap : Nat} {xs ys : List Int} (h : Own w B e k ao n cap xs) (he : xs = ys) : Own w B e k ao n cap ys := he ▸ h

set_option maxHeartbeats 1000000 in
theorem str0 (q : Int) (h : Own w B 5 .u8 ao n cap xs) (hn : n ≤ 1000000000) (hB : B ≤ w.heap.size) :
    Calls Try.prog 29 #[.slice ao n cap, .int .u8 q] w (ScalPost ao n xs B w) := by
  go_enter Try.func29, Try.ntmps29
  go_wp2_with (first | (at_builtin; refine wpB rfl (.tmp 5) (.tmp 6) rfl B _ _ _ _ rfl h [_] 1 1 rfl rfl (by omega) hB ?_; intro a1 c1 w1 h1 f1; have hz1 := f1.size) | (at_builtin; refine wpB rfl (.tmp 14) (.tmp 16) rfl B _ _ _ _ rfl h1 [_, _] 2 2 rfl rfl (by omega) (by omega) ?_; intro a2 c2 w2 h2 f2; have hz2 := f2.size) | (at_builtin; refine wpB rfl (.tmp 24) (.tmp 25) rfl B _ _ _ _ rfl h1 [_] 1 1 rfl rfl (by omega) (by omega) ?_; intro a2 c2 w2 h2 f2; have hz2 := f2.size) | (at_builtin; refine wpB rfl (.tmp 27) (.tmp 29) rfl B _ _ _ _ rfl h1 [_] 1 1 rfl rfl (by omega) (by omega) ?_; intro a2 c2 w2 h2 f2; have hz2 := f2.size) | (at_builtin; refine wpB rfl (.tmp 31) (.tmp 32) rfl B _ _ _ _ rfl h2 [_, _, _, _, _] 5 5 rfl rfl (by omega) (by omega) ?_; intro a3 c3 w3 h3 f3))
  all_goals go_ret
  · exact ⟨a3, _, c3, _, rfl, by omega, scal_str [92, 34] (str_esc _), own_eq h3 (by simp), f1.trans (f2.trans f3)⟩
  · exact ⟨a3, _, c3, _, rfl, by omega, scal_str [92, q] (str_esc _), own_eq h3 (by simp), f1.trans (f2.trans f3)⟩
  · exact ⟨a3, _, c3, _, rfl, by omega, scal_str [120] (str_one _ (by omega) (by omega)), own_eq h3 (by simp), f1.trans (f2.trans f3)⟩
  · have hq : (q == 34) = false ∧ (q == 92) = false := by assumption
    simp at hq
    exact ⟨a3, _, c3, _, rfl, by omega, scal_str [q] (str_one _ hq.1 hq.2), own_eq h3 (by simp), f1.trans (f2.trans f3)⟩
  · exact ⟨a3, _, c3, _, rfl, by omega, scal_str [120] (str_one _ (by omega) (by omega)), own_eq h3 (by simp), f1.trans (f2.trans f3)⟩

/-- The state while a number is written: bare bytes alone. -/
structure Num (W w : World) (B : Nat) (a0 ao : Option Addr) (n cap : Nat) (xs ys : List Int) : Prop where
  own : Own w B 5 .u8 ao n cap (xs ++ ys)
  eff : Eff W w a0 ao
  all : ∀ y ∈ ys, bare y
  base : B ≤ W.heap.size

theorem wpNum {W w0 : World} {ops : Array Oper} {rest : List Oper} {o : Oper} {a : Act} {Q : Exit → Act → World → Prop} (hgd : o.guard = none) (s x : Operand)
    (ho : o.op = .call { callee := .builtin .append, args := #[s, x], argTypes := #[22, 22] })
    {B : Nat} {a0 ao : Option Addr} {n cap : Nat} {xs ys : List Int} (hs : a.eval s = .slice ao n cap) (hI : Num W w0 B a0 ao n cap xs ys)
    (zs : List Int) (m c : Nat) (hm : zs.length = m) (hx : a.eval x = .slice (some ⟨w0.heap.size, 0, none⟩) m c) (hz : ∀ z ∈ zs, bare z) (hb : n + m ≤ 140737488355328)
    (h : ∀ ao' cap' w', Num W w' B a0 ao' (n + m) cap' xs (ys ++ zs) → wpList Try.prog ops Q rest (a.put o.dst (.slice ao' (n + m) cap')) w') :
    wpList Try.prog ops Q (o :: rest) a (w0.alloc (.cells (zs.map (Value.int .u8)).toArray 5)) := by
  refine wpB hgd s x ho B ao n cap _ hs hI.own zs m c hm hx hb (Nat.le_trans hI.base hI.eff.size) ?_
  intro ao' cap' w' h1 f1
  refine h ao' cap' w' ⟨own_eq h1 (by simp), hI.eff.trans f1, ?_, hI.base⟩
  intro y hy
  rcases List.mem_append.1 hy with hy | hy
  · exact hI.all y hy
  · exact hz y hy

theorem num_end {W w' : World} {B : Nat} {a0 ao' : Option Addr} {n0 n' cap' : Nat} {xs ys : List Int} (hx : xs.length = n0) (hI : Num W w' B a0 ao' n' cap' xs ys) (h1 : n0 < n') (h2 : n' ≤ n0 + 20) :
    ScalPost a0 n0 xs B W (.returned (.slice ao' n' cap')) w' := by
  have hl := hI.own.len
  simp at hl
  exact ⟨ao', n', cap', ys, rfl, h2, scal_bare ys (by intro h; subst h; simp at hl; omega) hI.all, hI.own, hI.eff⟩

set_option maxHeartbeats 4000000 in
theorem num0 (q : Int) (hq0 : 0 ≤ q) (hq1 : q ≤ 31) (h : Own w B 5 .u8 ao n cap xs) (hn : n ≤ 1000000000) (hB : B ≤ w.heap.size) :
    Calls Try.prog 30 #[.slice ao n cap, .int .u8 q] w (ScalPost ao n xs B w) := by
  have hI : Num w w B ao ao n cap xs [] := ⟨own_eq h (by simp), Eff.refl _ _, by simp, hB⟩
  have hx := h.len
  clear h
  go_enter Try.func30, Try.ntmps30
  go_wp2_with (first | (at_builtin; refine wpNum rfl (.tmp 8) (.tmp 9) rfl rfl hI [_] 1 1 rfl rfl (by simp [bare] <;> omega) (by omega) ?_; intro a1 c1 w1 hI1; clear hI; have hI := hI1; clear hI1) | (at_builtin; refine wpNum rfl (.tmp 21) (.tmp 26) rfl rfl hI [_] 1 1 rfl rfl (by simp [bare] <;> omega) (by omega) ?_; intro a1 c1 w1 hI1; clear hI; have hI := hI1; clear hI1) | (at_builtin; refine wpNum rfl (.tmp 28) (.tmp 32) rfl rfl hI [_] 1 1 rfl rfl (by simp [bare] <;> omega) (by omega) ?_; intro a1 c1 w1 hI1; clear hI; have hI := hI1; clear hI1) | (at_builtin; refine wpNum rfl (.tmp 37) (.tmp 38) rfl rfl hI [_, _] 2 2 rfl rfl (by simp [bare] <;> omega) (by omega) ?_; intro a1 c1 w1 hI1; clear hI; have hI := hI1; clear hI1) | (at_builtin; refine wpNum rfl (.tmp 43) (.tmp 44) rfl rfl hI [_, _, _] 3 3 rfl rfl (by simp [bare] <;> omega) (by omega) ?_; intro a1 c1 w1 hI1; clear hI; have hI := hI1; clear hI1))
  all_goals
    go_ret
    exact num_end hx hI (by omega) (by omega)
end
end Go.Proofs.Qxb6001551a
