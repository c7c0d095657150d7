/-
  OWN ROWS: a slice that the call itself made and appends to: its bytes as a list of numbers; what an append leaves; how rows stay apart.
-/
import Derived.WalkKit
import Derived.ProofKit
import Derived.Maps.AppendAt
import Derived.Below
namespace Go.Proofs.Qxb6600163a
open Go.RowKit
set_option linter.unusedVariables false

/-- The slice '.slice ao n cap' is the call's own; its elements are 'xs'. -/
def Own (w : World) (B : Nat) (e : TypeId) (k : IntKind) (ao : Option Addr) (n cap : Nat) (xs : List Int) : Prop :=
  w.ownsRow B e 1 (.slice ao n cap) n (xs.map (Value.int k))

def blk (ao : Option Addr) : Option Nat := ao.map Addr.block

theorem ownBlock_slice (ao : Option Addr) (n cap : Nat) : (Value.slice ao n cap).ownBlock = blk ao := by
  cases ao <;> rfl

/-- What a call that takes the slice at 'ao' and hands back the one at 'ao'' has done to the memory. -/
structure Eff (w w' : World) (ao ao' : Option Addr) : Prop where
  grown : w.grownBy w' (blk ao)
  place : blk ao' = blk ao ∨ ∃ g, blk ao' = some g ∧ w.heap.size ≤ g

def Apart (a b : Option Addr) : Prop := ∀ g, blk a = some g → blk b = some g → False

theorem Apart.symm {a b : Option Addr} (h : Apart a b) : Apart b a := fun g h1 h2 => h g h2 h1
theorem Apart.empty (b : Option Addr) : Apart none b := fun g h1 _ => by simp [blk] at h1

theorem Eff.refl (w : World) (ao : Option Addr) : Eff w w ao ao := ⟨⟨rfl, rfl, rfl, Nat.le_refl _, fun _ _ _ => rfl⟩, .inl rfl⟩
theorem Eff.alloc (w : World) (o : Obj) (ao : Option Addr) : Eff w (w.alloc o) ao ao := ⟨World.grownBy_alloc w o _, .inl rfl⟩

theorem Eff.size {w w' : World} {a b : Option Addr} (h : Eff w w' a b) : w.heap.size ≤ w'.heap.size := h.grown.size

theorem Eff.trans {w w1 w2 : World} {a b c : Option Addr} (h : Eff w w1 a b) (k : Eff w1 w2 b c) : Eff w w2 a c := by
  refine ⟨⟨k.grown.os.trans h.grown.os, k.grown.tape.trans h.grown.tape, k.grown.output.trans h.grown.output, Nat.le_trans h.grown.size k.grown.size, ?_⟩, ?_⟩
  · intro j hj hne
    rw [k.grown.block j (Nat.lt_of_lt_of_le hj h.grown.size), h.grown.block j hj hne]
    intro e
    rcases h.place with p | ⟨g, p, hg⟩
    · exact hne (e.trans p)
    · rw [p] at e
      have := Option.some.inj e
      omega
  · rcases k.place with p | ⟨g, p, hg⟩
    · rcases h.place with q | ⟨g, q, hg⟩
      · exact .inl (p.trans q)
      · exact .inr ⟨g, p.trans q, hg⟩
    · exact .inr ⟨g, p, Nat.le_trans h.grown.size hg⟩

section
variable {w w' : World} {B : Nat} {e : TypeId} {k : IntKind} {ao ao' a : Option Addr} {n cap : Nat} {xs : List Int}

theorem Own.empty (w : World) (B : Nat) (e : TypeId) (k : IntKind) : Own w B e k none 0 0 [] := World.ownsRow_nil w B e 1

theorem Own.len (h : Own w B e k ao n cap xs) : xs.length = n := by have := h.1; simpa using this

theorem Own.lt (h : Own w B e k ao n cap xs) {g : Nat} (hg : blk ao = some g) : B ≤ g ∧ g < w.heap.size :=
  World.ownsRow.lt h g (by rw [ownBlock_slice]; exact hg)

theorem Own.head (h : Own w B e k ao n cap xs) (hn : 0 < n) : ∃ g, ao = some ⟨g, 0, none⟩ ∧ B ≤ g ∧ g < w.heap.size := by
  rcases h.2 with ⟨hv, h0⟩ | ⟨g, cap', cur, hv, hb, hg, _⟩
  · omega
  · simp only [Value.slice.injEq] at hv
    obtain ⟨rfl, _, _⟩ := hv
    exact ⟨g, rfl, hb, (Array.getElem?_eq_some_iff.1 hg).1⟩

theorem Own.cap_le (h : Own w B e k ao n cap xs) : n ≤ cap ∧ cap ≤ maxLen := by
  rcases h.2 with ⟨hv, h0⟩ | ⟨g, cap', cur, hv, hb, hg, hn, hm, _⟩
  · simp only [Value.slice.injEq] at hv
    obtain ⟨_, h1, rfl⟩ := hv
    omega
  · simp only [Value.slice.injEq] at hv
    obtain ⟨_, _, rfl⟩ := hv
    exact ⟨hn, hm⟩

theorem Own.cell {g : Nat} (h : Own w B e k (some ⟨g, 0, none⟩) n cap xs) (j : Nat) (hj : j < n) : w.cell? ⟨g, j, none⟩ = some (.int k (xs.getD j 0)) := by
  have hl := h.len
  have := World.ownsRow.cellAt h j (by omega)
  rw [this]
  simp [List.getD, show j < xs.length by omega]

theorem Own.free {g : Nat} (h : Own w B e k (some ⟨g, 0, none⟩) n cap xs) (j : Nat) : w.frozen? ⟨g, j, none⟩ = false := World.ownsRow.frozenAt h j

theorem Own.alloc (h : Own w B e k ao n cap xs) (o : Obj) : Own (w.alloc o) B e k ao n cap xs := World.ownsRow.alloc h o

theorem Own.kept (h : Own w B e k a n cap xs) (f : Eff w w' ao ao') (hA : Apart a ao) : Own w' B e k a n cap xs := by
  refine World.ownsRow.kept h f.grown ?_
  rw [ownBlock_slice]
  cases hb : blk a with
  | none => exact .inl rfl
  | some g => exact .inr (fun e => hA g hb e.symm)

theorem Own.apart (h : Own w B e k a n cap xs) (f : Eff w w' ao ao') (hA : Apart a ao) : Apart a ao' := by
  intro g h1 h2
  rcases f.place with p | ⟨g', p, hg⟩
  · exact hA g h1 (p.symm.trans h2)
  · rw [p] at h2
    have := Option.some.inj h2
    have := (h.lt h1).2
    omega

theorem Own.below (h : Own w B e k ao n cap xs) (f : Eff w w' ao ao') (hB : B ≤ w.heap.size) : Below B w w' :=
  (Below.refl B w).grown f.grown hB (fun g hg => (h.lt hg).1)

/-- The slice cut at its front part: 's[:m]'. -/
theorem Own.take (h : Own w B e k ao n cap xs) (m : Nat) (hm : m ≤ n) : Own w B e k ao m cap (xs.take m) := by
  have hl := h.len
  rcases h.2 with ⟨hv, h0⟩ | ⟨g, cap', cur, hv, hb, hg, hn, hmx, hcs, ht⟩
  · simp only [Value.slice.injEq] at hv
    obtain ⟨rfl, _, rfl⟩ := hv
    obtain rfl : m = 0 := by omega
    simpa using Own.empty w B e k
  · simp only [Value.slice.injEq] at hv
    obtain ⟨rfl, _, rfl⟩ := hv
    refine ⟨by simp; omega, .inr ⟨g, cap, cur, rfl, hb, hg, by omega, hmx, hcs, ?_⟩⟩
    rw [List.map_take, ← ht, List.take_take]
    simp [Nat.min_eq_left hm]

/-- A store into the row. -/
theorem Own.stored {g : Nat} (h : Own w B e k (some ⟨g, 0, none⟩) n cap xs) (j : Nat) (z : Int) :
    Own (w.setCell ⟨g, j, none⟩ (.int k z)) B e k (some ⟨g, 0, none⟩) n cap (xs.set j z) ∧ Eff w (w.setCell ⟨g, j, none⟩ (.int k z)) (some ⟨g, 0, none⟩) (some ⟨g, 0, none⟩) := by
  have := World.ownsRow.stored h j (.int k z)
  refine ⟨?_, ⟨this.2, .inl rfl⟩⟩
  have h1 := this.1
  rw [← List.map_set] at h1
  exact h1
end

theorem cells_new (w : World) (cs : List Value) (t : TypeId) : ∀ j u, cs[j]? = some u → (w.alloc (.cells cs.toArray t)).cell? ((⟨w.heap.size, 0, none⟩ : Addr).add j) = some u := by
  intro j u hu
  rw [Addr.add_lit]
  rw [cell_of_row _ w.heap.size _ cs.toArray t (0, 0) (heap_alloc_new w _)]
  simpa using hu

/-- 'append(out, y1, y2, ..)': the operands lie in a block of their own, just laid. -/
theorem wp_app {P : Program} {w0 : World} {ops : Array Oper} {rest : List Oper} {o : Oper} {a : Act} {Q : Exit → Act → World → Prop} (hgd : o.guard = none) (s x : Operand) (t : TypeId)
    (ho : o.op = .call { callee := .builtin .append, args := #[s, x], argTypes := #[t, t] })
    (B : Nat) (e : TypeId) (k : IntKind) (i : TypeInfo) (bytes : Nat) (ht : P.underlying t = some (.slice e)) (hi : P.info? e = some i) (hz : i.zero = some (.int k 0)) (hsize : i.size = 1) (hby : i.bytes = bytes)
    (ao : Option Addr) (n cap : Nat) (xs : List Int) (hs : a.eval s = .slice ao n cap) (hown : Own w0 B e k ao n cap xs)
    (ys : List Int) (m c : Nat) (hm : ys.length = m) (hx : a.eval x = .slice (some ⟨w0.heap.size, 0, none⟩) m c) (hb : (n + m) * bytes ≤ 140737488355328) (hb2 : n + m ≤ 140737488355328) (hB : B ≤ w0.heap.size)
    (h : ∀ ao' cap' w', Own w' B e k ao' (n + m) cap' (xs ++ ys) → Eff w0 w' ao ao' → wpList P ops Q rest (a.put o.dst (.slice ao' (n + m) cap')) w') :
    wpList P ops Q (o :: rest) a (w0.alloc (.cells (ys.map (Value.int k)).toArray e)) := by
  have hownA := World.ownsRow.alloc hown (.cells (ys.map (Value.int k)).toArray e)
  refine wpList_append_own_at _ hgd s x t ho B e i (.int k 0) 1 bytes ht hi hz hsize hby rfl (by decide) _ n (xs.map (Value.int k)) hs hownA ⟨w0.heap.size, 0, none⟩ m c (ys.map (Value.int k)) hx (by simp [hm]) (cells_new w0 _ e) (ints_oneCell k ys) (by unfold maxLen; omega) hb (by simp; omega) ?_
  intro v' w' hown' hgrow _ hat
  rw [ownBlock_slice] at hat hgrow
  rw [← List.map_append] at hown'
  have hvs : ∃ ao' cap', v' = .slice ao' (n + m) cap' := by
    rcases hown'.2 with ⟨hv, h0⟩ | ⟨g, cap', cur, hv, _⟩
    · exact ⟨none, 0, by rw [hv, h0]⟩
    · exact ⟨_, _, hv⟩
  obtain ⟨ao', cap', rfl⟩ := hvs
  rw [ownBlock_slice] at hat
  refine h ao' cap' w' hown' ((Eff.alloc w0 _ ao).trans ⟨hgrow, ?_⟩)
  rcases hat with p | p
  · exact .inl p
  · exact .inr ⟨_, p, Nat.le_refl _⟩

/-- 'append(out, src...)': whatever source, nil or not. -/
theorem wp_app_src {P : Program} {w : World} {ops : Array Oper} {rest : List Oper} {o : Oper} {a : Act} {Q : Exit → Act → World → Prop} (hgd : o.guard = none) (s x : Operand) (t : TypeId)
    (ho : o.op = .call { callee := .builtin .append, args := #[s, x], argTypes := #[t, t] })
    (B : Nat) (e : TypeId) (k : IntKind) (i : TypeInfo) (bytes : Nat) (ht : P.underlying t = some (.slice e)) (hi : P.info? e = some i) (hz : i.zero = some (.int k 0)) (hsize : i.size = 1) (hby : i.bytes = bytes)
    (ao : Option Addr) (n cap : Nat) (xs : List Int) (hs : a.eval s = .slice ao n cap) (hown : Own w B e k ao n cap xs)
    (so : Option Addr) (ys : List Int) (m c : Nat) (hm : ys.length = m) (hx : a.eval x = .slice so m c) (hnone : so = none → m = 0 ∧ c = 0) (hcell : ∀ ad, so = some ad → ∀ j, j < m → w.cell? (ad.add j) = some (.int k (ys.getD j 0)))
    (hb : (n + m) * bytes ≤ 140737488355328) (hb2 : n + m ≤ 140737488355328) (hB : B ≤ w.heap.size)
    (h : ∀ ao' cap' w', Own w' B e k ao' (n + m) cap' (xs ++ ys) → Eff w w' ao ao' → wpList P ops Q rest (a.put o.dst (.slice ao' (n + m) cap')) w') :
    wpList P ops Q (o :: rest) a w := by
  cases so with
  | none =>
    obtain ⟨rfl, rfl⟩ := hnone rfl
    obtain rfl : ys = [] := List.eq_nil_of_length_eq_zero hm
    refine wpList_plain hgd fun K hK => ?_
    have hrun := run_append_owned_none (P := P) (w := w) B t o.type e i 1 ht hi _ n _ hown
    unfold Oper.wp
    simp [execOp, ho, resolve, invoke, builtin, hs, hx, hrun, Result.andThen]
    have := h ao cap w (by simpa using hown) (Eff.refl w ao)
    exact hK _ _ (by simpa using this)
  | some ad =>
    refine wpList_append_own_at _ hgd s x t ho B e i (.int k 0) 1 bytes ht hi hz hsize hby rfl (by decide) _ n (xs.map (Value.int k)) hs hown ad m c (ys.map (Value.int k)) hx (by simp [hm]) ?_ (ints_oneCell k ys) (by unfold maxLen; omega) hb hB ?_
    · intro j u hu
      have hj : j < m := by
        have := (List.getElem?_eq_some_iff.1 hu).1
        simpa [hm] using this
      rw [hcell ad rfl j hj]
      rw [← hu]
      simp [List.getD, show j < ys.length by omega]
    · intro v' w' hown' hgrow _ hat
      rw [ownBlock_slice] at hat hgrow
      rw [← List.map_append] at hown'
      have hvs : ∃ ao' cap', v' = .slice ao' (n + m) cap' := by
        rcases hown'.2 with ⟨hv, h0⟩ | ⟨g, cap', cur, hv, _⟩
        · exact ⟨none, 0, by rw [hv, h0]⟩
        · exact ⟨_, _, hv⟩
      obtain ⟨ao', cap', rfl⟩ := hvs
      rw [ownBlock_slice] at hat
      refine h ao' cap' w' hown' ⟨hgrow, ?_⟩
      rcases hat with p | p
      · exact .inl p
      · exact .inr ⟨_, p, Nat.le_refl _⟩

end Go.Proofs.Qxb6600163a
