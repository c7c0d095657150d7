/-
  THE BUILDER's THREE ROWS (the text, the stack, the counts) AS ONE STATE, and what each step makes of it.
-/
import Derived.Test.Qxb6001551aScal
namespace Go.Proofs.Qxb6001551a
open Go.RowKit
set_option linter.unusedVariables false

structure Inv (W w : World) (B : Nat) (a1 : Option Addr) (n1 c1 : Nat) (a2 : Option Addr) (n2 c2 : Nat) (a3 : Option Addr) (n3 c3 : Nat) (stt : Nat × Nat) (stk cnt : List Int) : Prop where
  o : ∃ out, Own w B 5 .u8 a1 n1 c1 out ∧ rd (0, 0) out = stt
  s : Own w B 5 .u8 a2 n2 c2 stk
  c : Own w B 3 .i64 a3 n3 c3 cnt
  a12 : Apart a1 a2
  a13 : Apart a1 a3
  a23 : Apart a2 a3
  bel : Below B W w
  base : B ≤ W.heap.size

section
variable {W w w' : World} {B : Nat} {a1 : Option Addr} {n1 c1 : Nat} {a2 : Option Addr} {n2 c2 : Nat} {a3 : Option Addr} {n3 c3 : Nat} {stt stt' : Nat × Nat} {stk cnt : List Int}

theorem Inv.sz (h : Inv W w B a1 n1 c1 a2 n2 c2 a3 n3 c3 stt stk cnt) : B ≤ w.heap.size := Nat.le_trans h.base h.bel.size

theorem Inv.out {a1' : Option Addr} {n1' c1' : Nat} (h : Inv W w B a1 n1 c1 a2 n2 c2 a3 n3 c3 stt stk cnt) (f : Eff w w' a1 a1') (ho : ∃ out, Own w' B 5 .u8 a1' n1' c1' out ∧ rd (0, 0) out = stt') :
    Inv W w' B a1' n1' c1' a2 n2 c2 a3 n3 c3 stt' stk cnt := by
  obtain ⟨out0, ho0, _⟩ := h.o
  exact ⟨ho, h.s.kept f h.a12.symm, h.c.kept f h.a13.symm, (h.s.apart f h.a12.symm).symm, (h.c.apart f h.a13.symm).symm, h.a23, h.bel.trans (ho0.below f h.sz), h.base⟩

theorem Inv.stack {a2' : Option Addr} {n2' c2' : Nat} {stk' : List Int} (h : Inv W w B a1 n1 c1 a2 n2 c2 a3 n3 c3 stt stk cnt) (f : Eff w w' a2 a2') (ho : Own w' B 5 .u8 a2' n2' c2' stk') :
    Inv W w' B a1 n1 c1 a2' n2' c2' a3 n3 c3 stt stk' cnt := by
  obtain ⟨out0, ho0, hr⟩ := h.o
  exact ⟨⟨out0, ho0.kept f h.a12, hr⟩, ho, h.c.kept f h.a23.symm, ho0.apart f h.a12, h.a13, (h.c.apart f h.a23.symm).symm, h.bel.trans (h.s.below f h.sz), h.base⟩

theorem Inv.counts {a3' : Option Addr} {n3' c3' : Nat} {cnt' : List Int} (h : Inv W w B a1 n1 c1 a2 n2 c2 a3 n3 c3 stt stk cnt) (f : Eff w w' a3 a3') (ho : Own w' B 3 .i64 a3' n3' c3' cnt') :
    Inv W w' B a1 n1 c1 a2 n2 c2 a3' n3' c3' stt stk cnt' := by
  obtain ⟨out0, ho0, hr⟩ := h.o
  exact ⟨⟨out0, ho0.kept f h.a13, hr⟩, h.s.kept f h.a23, ho, h.a12, ho0.apart f h.a13, h.s.apart f h.a23, h.bel.trans (h.c.below f h.sz), h.base⟩

theorem Inv.pop2 (h : Inv W w B a1 n1 c1 a2 n2 c2 a3 n3 c3 stt stk cnt) (m : Nat) (hm : m ≤ n2) : Inv W w B a1 n1 c1 a2 m c2 a3 n3 c3 stt (stk.take m) cnt :=
  ⟨h.o, h.s.take m hm, h.c, h.a12, h.a13, h.a23, h.bel, h.base⟩
theorem Inv.pop3 (h : Inv W w B a1 n1 c1 a2 n2 c2 a3 n3 c3 stt stk cnt) (m : Nat) (hm : m ≤ n3) : Inv W w B a1 n1 c1 a2 n2 c2 a3 m c3 stt stk (cnt.take m) :=
  ⟨h.o, h.s, h.c.take m hm, h.a12, h.a13, h.a23, h.bel, h.base⟩

theorem Inv.cs {g2 : Nat} (h : Inv W w B a1 n1 c1 (some ⟨g2, 0, none⟩) n2 c2 a3 n3 c3 stt stk cnt) {m : Nat} {sv : Int} (e : sv = stk.getD m 0) (hm : m < n2) : w.cell? ⟨g2, m, none⟩ = some (.int .u8 sv) := by
  rw [e]; exact h.s.cell m hm
theorem Inv.cc {g3 : Nat} (h : Inv W w B a1 n1 c1 a2 n2 c2 (some ⟨g3, 0, none⟩) n3 c3 stt stk cnt) {m : Nat} {cv : Int} (e : cv = cnt.getD m 0) (hm : m < n3) : w.cell? ⟨g3, m, none⟩ = some (.int .i64 cv) := by
  rw [e]; exact h.c.cell m hm
theorem Inv.cf {g3 : Nat} (h : Inv W w B a1 n1 c1 a2 n2 c2 (some ⟨g3, 0, none⟩) n3 c3 stt stk cnt) (m : Nat) : w.frozen? ⟨g3, m, none⟩ = false := h.c.free m
theorem Inv.store {g3 : Nat} (h : Inv W w B a1 n1 c1 a2 n2 c2 (some ⟨g3, 0, none⟩) n3 c3 stt stk cnt) (m : Nat) (z : Int) :
    Inv W (w.setCell ⟨g3, m, none⟩ (.int .i64 z)) B a1 n1 c1 a2 n2 c2 (some ⟨g3, 0, none⟩) n3 c3 stt stk (cnt.set m z) :=
  h.counts (h.c.stored m z).2 (h.c.stored m z).1

theorem wpO {ops : Array Oper} {rest : List Oper} {o : Oper} {a : Act} {Q : Exit → Act → World → Prop} (hgd : o.guard = none) (s x : Operand)
    (ho : o.op = .call { callee := .builtin .append, args := #[s, x], argTypes := #[22, 22] }) (hs : a.eval s = .slice a1 n1 c1) (hI : Inv W w B a1 n1 c1 a2 n2 c2 a3 n3 c3 stt stk cnt)
    (ys : List Int) (m c : Nat) (hm : ys.length = m) (hx : a.eval x = .slice (some ⟨w.heap.size, 0, none⟩) m c) (hst : rd stt ys = stt') (hb : n1 + m ≤ 140737488355328)
    (h : ∀ ao' cap' w', Inv W w' B ao' (n1 + m) cap' a2 n2 c2 a3 n3 c3 stt' stk cnt → wpList Try.prog ops Q rest (a.put o.dst (.slice ao' (n1 + m) cap')) w') :
    wpList Try.prog ops Q (o :: rest) a (w.alloc (.cells (ys.map (Value.int .u8)).toArray 5)) := by
  obtain ⟨out0, ho0, hr⟩ := hI.o
  refine wpB hgd s x ho B a1 n1 c1 out0 hs ho0 ys m c hm hx hb hI.sz ?_
  intro ao' cap' w' h1 f1
  exact h ao' cap' w' (hI.out f1 ⟨_, h1, by rw [rd_app, hr, hst]⟩)

theorem wpS {ops : Array Oper} {rest : List Oper} {o : Oper} {a : Act} {Q : Exit → Act → World → Prop} (hgd : o.guard = none) (s x : Operand)
    (ho : o.op = .call { callee := .builtin .append, args := #[s, x], argTypes := #[22, 22] }) (hs : a.eval s = .slice a2 n2 c2) (hI : Inv W w B a1 n1 c1 a2 n2 c2 a3 n3 c3 stt stk cnt)
    (ys : List Int) (m c : Nat) (hm : ys.length = m) (hx : a.eval x = .slice (some ⟨w.heap.size, 0, none⟩) m c) (hb : n2 + m ≤ 140737488355328)
    (h : ∀ ao' cap' w', Inv W w' B a1 n1 c1 ao' (n2 + m) cap' a3 n3 c3 stt (stk ++ ys) cnt → wpList Try.prog ops Q rest (a.put o.dst (.slice ao' (n2 + m) cap')) w') :
    wpList Try.prog ops Q (o :: rest) a (w.alloc (.cells (ys.map (Value.int .u8)).toArray 5)) := by
  refine wpB hgd s x ho B a2 n2 c2 stk hs hI.s ys m c hm hx hb hI.sz ?_
  intro ao' cap' w' h1 f1
  exact h ao' cap' w' (hI.stack f1 h1)

theorem wpC {ops : Array Oper} {rest : List Oper} {o : Oper} {a : Act} {Q : Exit → Act → World → Prop} (hgd : o.guard = none) (s x : Operand)
    (ho : o.op = .call { callee := .builtin .append, args := #[s, x], argTypes := #[38, 38] }) (hs : a.eval s = .slice a3 n3 c3) (hI : Inv W w B a1 n1 c1 a2 n2 c2 a3 n3 c3 stt stk cnt)
    (ys : List Int) (m c : Nat) (hm : ys.length = m) (hx : a.eval x = .slice (some ⟨w.heap.size, 0, none⟩) m c) (hb : n3 + m ≤ 17592186044416)
    (h : ∀ ao' cap' w', Inv W w' B a1 n1 c1 a2 n2 c2 ao' (n3 + m) cap' stt stk (cnt ++ ys) → wpList Try.prog ops Q rest (a.put o.dst (.slice ao' (n3 + m) cap')) w') :
    wpList Try.prog ops Q (o :: rest) a (w.alloc (.cells (ys.map (Value.int .i64)).toArray 3)) := by
  refine wpI hgd s x ho B a3 n3 c3 cnt hs hI.c ys m c hm hx hb hI.sz ?_
  intro ao' cap' w' h1 f1
  exact h ao' cap' w' (hI.counts f1 h1)

theorem open1 (q : Int) (d : Nat) (hI : Inv W w B a1 n1 c1 a2 n2 c2 a3 n3 c3 (0, d) stk cnt) (hn : n1 ≤ 1000000000) :
    Calls Try.prog 24 #[.slice a1 n1 c1, .int .u8 q] w fun e w' => ∃ a1' c1', e = .returned (.slice a1' (n1 + 1) c1') ∧ Inv W w' B a1' (n1 + 1) c1' a2 n2 c2 a3 n3 c3 (0, d + 1) stk cnt := by
  obtain ⟨out0, ho0, hr⟩ := hI.o
  refine (open0 a1 n1 c1 out0 B w q ho0 hn hI.sz).mono ?_
  rintro e w' ⟨a1', c1', y, rfl, hy, h1, f1⟩
  exact ⟨a1', c1', rfl, hI.out f1 ⟨_, h1, by rw [rd_app, hr, rd_open d y hy]⟩⟩

theorem close1 (q : Int) (d : Nat) (hI : Inv W w B a1 n1 c1 a2 n2 c2 a3 n3 c3 (0, d + 1) stk cnt) (hn : n1 ≤ 1000000000) :
    Calls Try.prog 25 #[.slice a1 n1 c1, .int .u8 q] w fun e w' => ∃ a1' c1', e = .returned (.slice a1' (n1 + 1) c1') ∧ Inv W w' B a1' (n1 + 1) c1' a2 n2 c2 a3 n3 c3 (stand d) stk cnt := by
  obtain ⟨out0, ho0, hr⟩ := hI.o
  refine (close0 a1 n1 c1 out0 B w q ho0 hn hI.sz).mono ?_
  rintro e w' ⟨a1', c1', y, rfl, hy, h1, f1⟩
  exact ⟨a1', c1', rfl, hI.out f1 ⟨_, h1, by rw [rd_app, hr, rd_close d y hy]⟩⟩

theorem key1 (d : Nat) (hd : 1 ≤ d) (hI : Inv W w B a1 n1 c1 a2 n2 c2 a3 n3 c3 (0, d) stk cnt) (hn : n1 ≤ 1000000000) :
    Calls Try.prog 26 #[.slice a1 n1 c1] w fun e w' => ∃ a1' c1', e = .returned (.slice a1' (n1 + 8) c1') ∧ Inv W w' B a1' (n1 + 8) c1' a2 n2 c2 a3 n3 c3 (0, d) stk cnt := by
  obtain ⟨out0, ho0, hr⟩ := hI.o
  refine (key0 a1 n1 c1 out0 B w ho0 hn hI.sz).mono ?_
  rintro e w' ⟨a1', c1', rfl, h1, f1⟩
  exact ⟨a1', c1', rfl, hI.out f1 ⟨_, h1, by rw [rd_app, hr, rd_key d hd]⟩⟩

theorem scal1 (op q : Int) (hq0 : 0 ≤ q) (hq1 : q ≤ 255) (d : Nat) (hd : 1 ≤ d) (hI : Inv W w B a1 n1 c1 a2 n2 c2 a3 n3 c3 (0, d) stk cnt) (hn : n1 ≤ 1000000000) :
    Calls Try.prog 23 #[.slice a1 n1 c1, .int .u8 op, .int .u8 q] w fun e w' => ∃ a1' n1' c1', e = .returned (.slice a1' n1' c1') ∧ n1' ≤ n1 + 20 ∧ Inv W w' B a1' n1' c1' a2 n2 c2 a3 n3 c3 (0, d) stk cnt := by
  obtain ⟨out0, ho0, hr⟩ := hI.o
  refine (scal0 a1 n1 c1 out0 B w op q hq0 hq1 ho0 hn hI.sz).mono ?_
  rintro e w' ⟨a1', n1', c1', ys, rfl, hn', hs, h1, f1⟩
  exact ⟨a1', n1', c1', rfl, hn', hI.out f1 ⟨_, h1, by rw [rd_app, hr, hs.1 d hd]⟩⟩
end
end Go.Proofs.Qxb6001551a
