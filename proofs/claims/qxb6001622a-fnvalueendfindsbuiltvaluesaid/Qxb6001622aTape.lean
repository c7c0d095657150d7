/-
  THE BUILDER's TAPE AND ITS TEXT AS A STATE; tapeAt; hexDigit.
-/
import Derived.Test.Qxb6001622aRows
import Derived.Test.Qxb6001622aOwn
import Derived.Test.Qxb6001622aPlain
namespace Go.Proofs.Qxb6001622a
open Go.RowKit
set_option linter.unusedVariables false

theorem info5 : (Try.prog.info? 5).map (fun i => (i.zero, i.size, i.bytes)) = some (some (.int .u8 0), 1, 1) := by kernel_rfl

theorem own_eq {w : World} {B : Nat} {e : TypeId} {k : IntKind} {ao : Option Addr} {n cap : Nat} {xs ys : List Int} (h : Own w B e k ao n cap xs) (he : xs = ys) : Own w B e k ao n cap ys := he ▸ h

/-- 'append' to a row of bytes. -/
theorem wpB {w0 : World} {ops : Array Oper} {rest : List Oper} {o : Oper} {a : Act} {Q : Exit → Act → World → Prop} (hgd : o.guard = none) (s x : Operand)
    (ho : o.op = .call { callee := .builtin .append, args := #[s, x], argTypes := #[23, 23] })
    (B : Nat) (ao : Option Addr) (n cap : Nat) (xs : List Int) (hs : a.eval s = .slice ao n cap) (hown : Own w0 B 5 .u8 ao n cap xs)
    (ys : List Int) (m c : Nat) (hm : ys.length = m) (hx : a.eval x = .slice (some ⟨w0.heap.size, 0, none⟩) m c) (hb : n + m ≤ 140737488355328) (hB : B ≤ w0.heap.size)
    (h : ∀ ao' cap' w', Own w' B 5 .u8 ao' (n + m) cap' (xs ++ ys) → Eff w0 w' ao ao' → wpList Try.prog ops Q rest (a.put o.dst (.slice ao' (n + m) cap')) w') :
    wpList Try.prog ops Q (o :: rest) a (w0.alloc (.cells (ys.map (Value.int .u8)).toArray 5)) := by
  obtain ⟨i, hi, hz0, hz1, hz2⟩ := info_parts info5
  exact wp_app hgd s x 23 ho B 5 .u8 i 1 Try.underlying23 hi hz0 hz1 hz2 ao n cap xs hs hown ys m c hm hx (by omega) hb hB h

/-- 'append(out, src...)' to a row of bytes. -/
theorem wpX {w : World} {ops : Array Oper} {rest : List Oper} {o : Oper} {a : Act} {Q : Exit → Act → World → Prop} (hgd : o.guard = none) (s x : Operand)
    (ho : o.op = .call { callee := .builtin .append, args := #[s, x], argTypes := #[23, 23] })
    (B : Nat) (ao : Option Addr) (n cap : Nat) (xs : List Int) (hs : a.eval s = .slice ao n cap) (hown : Own w B 5 .u8 ao n cap xs)
    (so : Option Addr) (ys : List Int) (m c : Nat) (hm : ys.length = m) (hx : a.eval x = .slice so m c) (hnone : so = none → m = 0 ∧ c = 0) (hcell : ∀ ad, so = some ad → ∀ j, j < m → w.cell? (ad.add j) = some (.int .u8 (ys.getD j 0)))
    (hb : n + m ≤ 140737488355328) (hB : B ≤ w.heap.size)
    (h : ∀ ao' cap' w', Own w' B 5 .u8 ao' (n + m) cap' (xs ++ ys) → Eff w w' ao ao' → wpList Try.prog ops Q rest (a.put o.dst (.slice ao' (n + m) cap')) w') :
    wpList Try.prog ops Q (o :: rest) a w := by
  obtain ⟨i, hi, hz0, hz1, hz2⟩ := info_parts info5
  exact wp_app_src hgd s x 23 ho B 5 .u8 i 1 Try.underlying23 hi hz0 hz1 hz2 ao n cap xs hs hown so ys m c hm hx hnone hcell (by omega) hb hB h

/-- The tape: its bytes lie below B. -/
def Tape (w : World) (B : Nat) (ta : Option Addr) (tl : Nat) : Prop :=
  0 < tl → ∃ tb to, ta = some ⟨tb, to, none⟩ ∧ tb < B ∧ ∀ i, i < tl → ∃ x : Int, 0 ≤ x ∧ x ≤ 255 ∧ w.cell? ⟨tb, to + i, none⟩ = some (.int .u8 x)

theorem Tape.of {w w' : World} {B : Nat} {ta : Option Addr} {tl : Nat} (h : Tape w B ta tl) (hb : Below B w w') : Tape w' B ta tl := by
  intro h0
  obtain ⟨tb, to, e, hlt, hc⟩ := h h0
  refine ⟨tb, to, e, hlt, fun i hi => ?_⟩
  obtain ⟨x, h1, h2, h3⟩ := hc i hi
  exact ⟨x, h1, h2, (hb.cell (p := ⟨tb, to + i, none⟩) hlt).trans h3⟩

theorem Tape.at {w : World} {B : Nat} {ta : Option Addr} {tl : Nat} (h : Tape w B ta tl) {p : Nat} (hp : p < tl) :
    ∃ tb to, ta = some ⟨tb, to, none⟩ ∧ ∃ x : Int, 0 ≤ x ∧ x ≤ 255 ∧ w.cell? ⟨tb, to + p, none⟩ = some (.int .u8 x) := by
  obtain ⟨tb, to, e, hlt, hc⟩ := h (by omega)
  exact ⟨tb, to, e, hc p hp⟩

/-- The text while it is written: behind what was there ('xs') some bytes with the property G. -/
structure St (W w : World) (B : Nat) (a0 ao : Option Addr) (n cap : Nat) (xs : List Int) (G : List Int → Prop) : Prop where
  own : ∃ ys, G ys ∧ Own w B 5 .u8 ao n cap (xs ++ ys)
  eff : Eff W w a0 ao
  bel : Below B W w
  base : B ≤ W.heap.size

theorem St.start {w : World} {B : Nat} {ao : Option Addr} {n cap : Nat} {xs : List Int} (h : Own w B 5 .u8 ao n cap xs) (hB : B ≤ w.heap.size) {G : List Int → Prop} (hG : G []) : St w w B ao ao n cap xs G :=
  ⟨⟨[], hG, own_eq h (by simp)⟩, Eff.refl _ _, Below.refl _ _, hB⟩

theorem St.sz {W w : World} {B : Nat} {a0 ao : Option Addr} {n cap : Nat} {xs : List Int} {G : List Int → Prop} (h : St W w B a0 ao n cap xs G) : B ≤ w.heap.size := Nat.le_trans h.base h.bel.size

theorem St.next {W w w' : World} {B : Nat} {a0 ao ao' : Option Addr} {n cap n' cap' : Nat} {xs ys zs : List Int} {G G' : List Int → Prop} (h : St W w B a0 ao n cap xs G) (hg : G ys) (ho : Own w B 5 .u8 ao n cap (xs ++ ys)) (hown : Own w' B 5 .u8 ao' n' cap' (xs ++ ys ++ zs)) (f : Eff w w' ao ao')
    (hG : G' (ys ++ zs)) : St W w' B a0 ao' n' cap' xs G' :=
  ⟨⟨ys ++ zs, hG, own_eq hown (by simp)⟩, h.eff.trans f, h.bel.trans (ho.below f h.sz), h.base⟩

theorem St.weak {W w : World} {B : Nat} {a0 ao : Option Addr} {n cap : Nat} {xs : List Int} {G G' : List Int → Prop} (h : St W w B a0 ao n cap xs G) (hG : ∀ ys, G ys → G' ys) : St W w B a0 ao n cap xs G' := by
  obtain ⟨ys, hg, ho⟩ := h.own
  exact ⟨⟨ys, hG ys hg, ho⟩, h.eff, h.bel, h.base⟩

theorem wpT {W w0 : World} {ops : Array Oper} {rest : List Oper} {o : Oper} {a : Act} {Q : Exit → Act → World → Prop} (hgd : o.guard = none) (s x : Operand)
    (ho : o.op = .call { callee := .builtin .append, args := #[s, x], argTypes := #[23, 23] })
    {B : Nat} {a0 ao : Option Addr} {n cap : Nat} {xs : List Int} {G : List Int → Prop} (hs : a.eval s = .slice ao n cap) (hS : St W w0 B a0 ao n cap xs G) (G' : List Int → Prop)
    (zs : List Int) (m c : Nat) (hm : zs.length = m) (hx : a.eval x = .slice (some ⟨w0.heap.size, 0, none⟩) m c) (hG : ∀ ys, G ys → G' (ys ++ zs)) (hb : n + m ≤ 140737488355328)
    (h : ∀ ao' cap' w', St W w' B a0 ao' (n + m) cap' xs G' → wpList Try.prog ops Q rest (a.put o.dst (.slice ao' (n + m) cap')) w') :
    wpList Try.prog ops Q (o :: rest) a (w0.alloc (.cells (zs.map (Value.int .u8)).toArray 5)) := by
  obtain ⟨ys, hg, ho1⟩ := hS.own
  refine wpB hgd s x ho B ao n cap _ hs ho1 zs m c hm hx hb hS.sz ?_
  intro ao' cap' w' h1 f1
  exact h ao' cap' w' (hS.next hg ho1 h1 f1 (hG ys hg))

/-- What a builder that takes (tape, pos, out) and hands back (pos, out) leaves: K: how far behind the tape's end it may come; s: what is left of eight bytes a tape byte. -/
def BPost (B : Nat) (w : World) (ao : Option Addr) (n : Nat) (xs : List Int) (p M K s : Nat) (P : List Int → Prop) (e : Ending) (w' : World) : Prop :=
  ∃ (p' : Nat) (ao' : Option Addr) (n' cap' : Nat) (ys : List Int), e = .returned (.tuple #[.int .i64 (p' : Int), .slice ao' n' cap']) ∧ p < p' ∧ p' ≤ M + K ∧ n' + 8 * p + s ≤ n + 8 * p' ∧ P ys ∧ Own w' B 5 .u8 ao' n' cap' (xs ++ ys) ∧ Eff w w' ao ao'

/-- The same, for a caller in the midst of its own text. -/
def SPost (W : World) (B : Nat) (a0 : Option Addr) (n : Nat) (xs : List Int) (p M K s : Nat) (G : List Int → Prop) (e : Ending) (w' : World) : Prop :=
  ∃ (p' : Nat) (ao' : Option Addr) (n' cap' : Nat), e = .returned (.tuple #[.int .i64 (p' : Int), .slice ao' n' cap']) ∧ p < p' ∧ p' ≤ M + K ∧ n' + 8 * p + s ≤ n + 8 * p' ∧ St W w' B a0 ao' n' cap' xs G

theorem BPost.mk {W w' : World} {B : Nat} {a0 ao' : Option Addr} {n0 n' cap' : Nat} {xs : List Int} {G P : List Int → Prop} {p p' M K s : Nat} (hS : St W w' B a0 ao' n' cap' xs G) (h1 : p < p') (h2 : p' ≤ M + K) (h3 : n' + 8 * p + s ≤ n0 + 8 * p') (hG : ∀ ys, G ys → P ys) :
    BPost B W a0 n0 xs p M K s P (.returned (.tuple #[.int .i64 (p' : Int), .slice ao' n' cap'])) w' := by
  obtain ⟨ys, hg, ho⟩ := hS.own
  exact ⟨p', ao', n', cap', ys, rfl, h1, h2, h3, hG ys hg, ho, hS.eff⟩

theorem SPost.of {W w w' : World} {B : Nat} {a0 ao : Option Addr} {n cap : Nat} {xs ys : List Int} {G G' P : List Int → Prop} {p M K s : Nat} {e : Ending} (hS : St W w B a0 ao n cap xs G) (hg : G ys) (ho : Own w B 5 .u8 ao n cap (xs ++ ys)) (h : BPost B w ao n (xs ++ ys) p M K s P e w')
    (hG : ∀ ys', P ys' → G' (ys ++ ys')) : SPost W B a0 n xs p M K s G' e w' := by
  obtain ⟨p', ao', n', cap', ys', rfl, h1, h2, h3, hp, h4, h5⟩ := h
  exact ⟨p', ao', n', cap', rfl, h1, h2, h3, hS.next hg ho h4 h5 (hG ys' hp)⟩

set_option maxHeartbeats 400000 in
theorem tape0 (ta : Option Addr) (tl tc p B : Nat) (w : World) (hT : Tape w B ta tl) (hp : p ≤ 1000000000) :
    Calls Try.prog 19 #[.slice ta tl tc, .int .i64 (p : Int)] w fun e w' => ∃ x : Int, e = .returned (.int .u8 x) ∧ 0 ≤ x ∧ x ≤ 255 ∧ w' = w := by
  by_cases h : p < tl
  · obtain ⟨tb, to, rfl, x, hx0, hx1, hc⟩ := hT.at h
    clear hT
    go_enter Try.func19, Try.ntmps19
    go_wp2
    go_ret
    exact ⟨x, rfl, hx0, hx1, rfl⟩
  · clear hT
    go_enter Try.func19, Try.ntmps19
    go_wp2
    go_ret
    exact ⟨0, rfl, by omega, by omega, rfl⟩

set_option maxHeartbeats 400000 in
theorem hex0 (x : Int) (u : Bool) (w : World) (h0 : 0 ≤ x) (h1 : x ≤ 255) :
    Calls Try.prog 23 #[.int .u8 x, .bool u] w fun e w' => ∃ y : Int, e = .returned (.int .u8 y) ∧ y ≠ 34 ∧ y ≠ 92 ∧ w' = w := by
  cases u
  · go_enter Try.func23, Try.ntmps23
    go_wp2
    all_goals
      go_ret
      refine ⟨_, rfl, ?_, ?_, rfl⟩ <;> omega
  · go_enter Try.func23, Try.ntmps23
    go_wp2
    all_goals
      go_ret
      refine ⟨_, rfl, ?_, ?_, rfl⟩ <;> omega
end Go.Proofs.Qxb6001622a
