/-
  THE WALKS OF cloneBytes, sepByte, the bound on lengths, ZZvalueEnd.
-/
import Derived.Test.Qxb6001622aObj
import Derived.Test.Qxb6001622aEnd
import Derived.OpenShut
import Derived.WalkSpells
namespace Go.Proofs.Qxb6001622a
open Go.RowKit
set_option linter.unusedVariables false

/-- A slice of bytes that came in. -/
def Row (w : World) (a : Option Addr) (len cap : Nat) (zs : List Int) : Prop :=
  (a = none ∧ len = 0 ∧ cap = 0 ∧ zs = []) ∨
  ∃ x, a = some x ∧ len ≤ cap ∧ cap ≤ maxLen ∧ zs.length = cap ∧ (∀ i, i < zs.length → w.cell? (x.add i) = some (.int .u8 (zs.getD i 0))) ∧ ∀ n ∈ zs, (Lit.int .u8 n).wf = true

/-- A slice whose elements 'ys' can be read in w. -/
def Src (w : World) (ao : Option Addr) (m c : Nat) (ys : List Int) : Prop :=
  ys.length = m ∧ (ao = none → m = 0 ∧ c = 0) ∧ ∀ ad, ao = some ad → ∀ j, j < m → w.cell? (ad.add j) = some (.int .u8 (ys.getD j 0))

section
variable {w w' : World} {a : Option Addr} {len cap : Nat} {zs : List Int}

theorem Row.le (h : Row w a len cap zs) : len ≤ 9223372036854775807 := by
  rcases h with ⟨_, h, _⟩ | ⟨x, _, h1, h2, _⟩
  · omega
  · unfold maxLen at h2; omega

theorem Row.bytes (h : Row w a len cap zs) (i : Nat) (hi : i < len) : 0 ≤ zs.getD i 0 ∧ zs.getD i 0 ≤ 255 := by
  rcases h with ⟨_, h, _⟩ | ⟨x, e, h1, h2, h3, h4, h5⟩
  · omega
  · have hl : i < zs.length := by omega
    have := h5 (zs.getD i 0) (by simp [List.getD, hl])
    exact bounds_u8 this

theorem Src.of {ao : Option Addr} {m c : Nat} {ys : List Int} (h : Src w ao m c ys) (hb : Below w.heap.size w w') : Src w' ao m c ys := by
  refine ⟨h.1, h.2.1, fun ad e j hj => ?_⟩
  have hc := h.2.2 ad e j hj
  rw [hb.cell (World.block_lt_of_cell? w _ hc), hc]

theorem Row.carry (h : Row w a len cap zs) (hb : Below w.heap.size w w') : Row w' a len cap zs := by
  rcases h with h | ⟨x, e, h1, h2, h3, h4, h5⟩
  · exact .inl h
  · refine .inr ⟨x, e, h1, h2, h3, fun i hi => ?_, h5⟩
    have hc := h4 i hi
    rw [hb.cell (World.block_lt_of_cell? w _ hc), hc]
end

theorem Own.src {w : World} {B : Nat} {ao : Option Addr} {n cap : Nat} {xs : List Int} (h : Own w B 5 .u8 ao n cap xs) : Src w ao n cap xs := by
  refine ⟨h.len, ?_, ?_⟩
  · intro e
    rcases h.2 with ⟨hv, h0⟩ | ⟨g, cap', cur, hv, _⟩
    · simp only [Value.slice.injEq] at hv
      exact ⟨h0, hv.2.2⟩
    · simp only [Value.slice.injEq] at hv
      rw [hv.1] at e; cases e
  · intro ad e j hj
    obtain ⟨g, rfl, _, _⟩ := h.head (by omega)
    obtain rfl := Option.some.inj e
    rw [Addr.add_lit, Nat.zero_add]
    exact h.cell j hj

/-- What cloneBytes leaves. -/
def Cloned (w : World) (len : Nat) (ys : List Int) (e : Ending) (w' : World) : Prop :=
  ∃ ao cap', e = .returned (.slice ao len cap') ∧ Src w' ao len cap' ys ∧ Below w.heap.size w w'

set_option maxHeartbeats 400000 in
theorem clone_nil (w : World) : Calls Try.prog 9 #[.slice none 0 0] w (Cloned w 0 []) := by
  have hnil := fun w a n c => Lib.run_eql_slice_nil (P := Try.prog) w 23 5 a n c 0 0 Try.underlying23
  go_enter Try.func9, Try.ntmps9
  go_wp2
  go_ret
  exact ⟨none, 0, rfl, ⟨rfl, fun _ => ⟨rfl, rfl⟩, fun _ h => by cases h⟩, Below.refl _ _⟩

theorem own_made {w : World} {B : Nat} {v : Value} {n : Nat} (h : w.ownsRow B 5 1 v n (madeCells (Value.int .u8 0).cells (n * 1)).toList) {ao : Option Addr} {cap : Nat} (e : v = .slice ao n cap) : Own w B 5 .u8 ao n cap (List.replicate n 0) := by
  subst e
  unfold Own
  have : (madeCells (Value.int .u8 0).cells (n * 1)).toList = (List.replicate n (0 : Int)).map (Value.int .u8) := by
    rw [Nat.mul_one]
    show (madeCells #[Value.int .u8 0] n).toList = _
    rw [toList_madeCells_one]
    simp
  rw [this] at h
  exact h

theorem at_plain {w : World} {b : Addr} {len : Nat} {zs : List Int} (h0 : 0 < len) (h : ∀ i, i < len → w.cell? (b.add i) = some (.int .u8 (zs.getD i 0))) :
    ∃ bb off, b = ⟨bb, off, none⟩ ∧ ∀ j, j < len → w.cell? ⟨bb, off + j, none⟩ = some (.int .u8 (zs.getD j 0)) := by
  obtain ⟨bb, off, spot⟩ := b
  have hspot : spot = none := by simpa [Addr.add] using World.cell?_spot (h 0 h0)
  subst hspot
  exact ⟨bb, off, rfl, fun j hj => by rw [← Go.WideShapes.add_plain]; exact h j hj⟩

theorem take_set {cs zs : List Int} {k len : Nat} {z : Int} (h1 : cs.length = len) (h2 : cs.take k = zs.take k) (h3 : z = zs.getD k 0) (hk : k < len) (hz : (zs.take len).length = len) : (cs.set k z).take (k + 1) = zs.take (k + 1) := by
  have hzl : k < zs.length := by simp at hz; omega
  rw [List.take_succ_eq_append_getElem (by simpa using (by omega : k < cs.length)), List.take_succ_eq_append_getElem hzl]
  have e1 : (cs.set k z).take k = cs.take k := by
    rw [List.take_set]
    apply List.set_eq_of_length_le
    simp
    omega
  rw [e1, h2]
  simp [h3, List.getD, hzl]

set_option maxHeartbeats 1000000 in
theorem clone_some (b : Addr) (len cap : Nat) (zs : List Int) (w : World) (hz : (zs.take len).length = len) (hlen : len ≤ 1000000) (hc : ∀ i, i < len → w.cell? (b.add i) = some (.int .u8 (zs.getD i 0))) :
    Calls Try.prog 9 #[.slice (some b) len cap] w (Cloned w len (zs.take len)) := by
  have hnil := fun w a n c => Lib.run_eql_slice_nil (P := Try.prog) w 23 5 a n c 0 0 Try.underlying23
  obtain ⟨i0, hi, hz0, hz1, hz2⟩ := info_parts info5
  go_enter Try.func9, Try.ntmps9
  go_wp2_with (at_make; refine wpList_make_full _ rfl _ _ 23 rfl w.heap.size 5 i0 (.int .u8 0) 1 Try.underlying23 hi hz0 hz1 _ _ _ _ len rfl rfl rfl rfl (by rw [hz2]; omega) (by unfold maxLen; omega) (Nat.le_refl _) ?_; intro w1 hown hgrow)
  have hO := own_made hown rfl
  have HC : Hid (∀ i, i < len → w.cell? (b.add i) = some (.int .u8 (zs.getD i 0))) := hc
  have HB : Below w.heap.size w w1 := (Below.refl _ _).grown hgrow (Nat.le_refl _) (fun k hk => by cases hk)
  clear hown hgrow hc hnil
  go_loopw [4] (fun v4 wr => ∃ (k : Nat) (cs : List Int), v4 = .int .i64 (k : Int) ∧ k ≤ len ∧ Own wr w.heap.size 5 .u8 (some ⟨w.heap.size, 0, none⟩) len len cs ∧ Hid (cs.take k = zs.take k) ∧ Below w.heap.size w wr) (fun v4 _ => len - (intOf v4).toNat)
  case atStart => exact ⟨0, _, rfl, by omega, hO, rfl, HB⟩
  case round =>
    clear hO HB
    obtain ⟨k, cs, rfl, hk, hO, hcs, HB⟩ := hrel
    by_cases hkl : k < len
    · obtain ⟨bb, off, rfl, hcb⟩ := at_plain (zs := zs) (by omega) HC.out
      have hc1 : wr.cell? ⟨bb, off + k, none⟩ = some (.int .u8 (zs.getD k 0)) := (HB.cell (World.block_lt_of_cell? w _ (hcb k hkl))).trans (hcb k hkl)
      obtain ⟨z, hzz⟩ : ∃ z, z = zs.getD k 0 := ⟨_, rfl⟩
      rw [← hzz] at hc1
      have HZ : Hid (z = zs.getD k 0) := hzz
      obtain ⟨y, hy⟩ : ∃ y, y = cs.getD k 0 := ⟨_, rfl⟩
      have hc2 := hO.cell k hkl
      rw [← hy] at hc2
      have hf := hO.free k
      clear hzz hcb hy
      go_wp2
      go_roundw
      case rel => exact ⟨k + 1, cs.set k z, by go_num, by omega, (hO.stored k z).1, take_set hO.len hcs.out HZ.out hkl hz, HB.setCell (by exact Nat.le_refl _) _⟩
      case measure => simp [intOf]; omega
    · obtain rfl : k = len := by omega
      go_wp2
      go_ret
      have e : cs = zs.take k := by
        have := hcs.out
        rw [List.take_of_length_le (by rw [hO.len]; exact Nat.le_refl _)] at this
        exact this
      exact ⟨_, _, rfl, e ▸ hO.src, HB⟩

theorem clone0 (w : World) (a : Option Addr) (len cap : Nat) (zs : List Int) (h : Row w a len cap zs) (hlen : len ≤ 1000000) : Calls Try.prog 9 #[.slice a len cap] w (Cloned w len (zs.take len)) := by
  rcases h with ⟨rfl, rfl, rfl, rfl⟩ | ⟨x, rfl, h1, h2, h3, h4, h5⟩
  · exact clone_nil w
  · exact clone_some x len cap zs w (by simp; omega) hlen (fun i hi => h4 i (by omega))

set_option maxHeartbeats 1000000 in
theorem sep0 (q : Int) (w : World) (h0 : 0 ≤ q) (h1 : q ≤ 255) : Calls Try.prog 14 #[.int .u8 q] w fun e w' => ∃ y : Int, e = .returned (.int .u8 y) ∧ delim y ∧ w' = w := by
  go_enter Try.func14, Try.ntmps14
  go_wp2
  all_goals
    go_ret
    exact ⟨_, rfl, by simp [delim], rfl⟩

set_option maxHeartbeats 1000000 in
theorem bytes_yes (a0 a1 a2 : Option Addr) (l0 c0 l1 c1 l2 c2 : Nat) (q : Int) (w : World) (h : l0 + l1 + l2 ≤ 1048576) :
    Calls Try.prog 12 #[.slice a0 l0 c0, .slice a1 l1 c1, .slice a2 l2 c2, .int .u8 q] w fun e w' => e = .returned (.bool true) ∧ w' = w := by
  go_enter Try.func12, Try.ntmps12
  go_wp2
  go_ret
  exact ⟨rfl, rfl⟩

set_option maxHeartbeats 1000000 in
theorem bytes_no (a0 a1 a2 : Option Addr) (l0 c0 l1 c1 l2 c2 : Nat) (q : Int) (w : World) (h : 1048576 < l0 + l1 + l2) (h0 : l0 ≤ 9223372036854775807) (h1 : l1 ≤ 9223372036854775807) (h2 : l2 ≤ 9223372036854775807) :
    Calls Try.prog 12 #[.slice a0 l0 c0, .slice a1 l1 c1, .slice a2 l2 c2, .int .u8 q] w fun e w' => e = .returned (.bool false) ∧ w' = w := by
  go_enter Try.func12, Try.ntmps12
  go_wp2
  all_goals
    go_ret
    exact ⟨rfl, rfl⟩
end Go.Proofs.Qxb6001622a
