/-
  THE WALK OF THE LAW ITSELF, out of the contracts.
-/
import Derived.Test.Qxb6001622aClone
namespace Go.Proofs.Qxb6001622a
open Go.RowKit
set_option linter.unusedVariables false

def Val (V : List Int) : Prop := rd (0, 0) V = (3, 0) ∨ (V ≠ [] ∧ ∀ y ∈ V, bare y)

theorem Val.pos {V : List Int} (h : Val V) : 0 < V.length := by
  rcases h with h | ⟨h, _⟩
  · exact (first_byte h).1
  · exact List.length_pos_iff.2 h

theorem end22 (g n cap st en : Nat) (D V : List Int) (w : World) (hS : Sees w g n D) (hL : Lies D V st) (hn : n ≤ 1000000000) (hV : Val V) (hen : st + V.length = en) (hE : en < n) (hE2 : delim (D.getD en 0)) :
    Calls Try.prog 22 #[.slice (some ⟨g, 0, none⟩) n cap, .int .i64 (st : Int)] w fun e w' => e = .returned (.int .i64 (en : Int)) ∧ w' = w := by
  subst hen
  rcases hV with hV | ⟨h0, hV⟩
  · exact endVal0 g n cap st D V w hS hL hn hV
  · refine endBare0 g n cap st D V w hS hL hn (List.length_pos_iff.2 h0) ?_ hE hE2
    intro k hk
    apply hV
    simp [List.getD, hk]

theorem zzEnd0 (g n cap st en : Nat) (D V : List Int) (w : World) (hS : Sees w g n D) (hL : Lies D V st) (hn : n ≤ 1000000000) (hV : Val V) (hen : st + V.length = en) (hE : en < n) (hE2 : delim (D.getD en 0)) :
    Calls Try.prog 15 #[.slice (some ⟨g, 0, none⟩) n cap, .int .i64 (st : Int)] w fun e w' => e = .returned (.int .i64 (en : Int)) ∧ w' = w := by
  have H : Hid (Sees w g n D ∧ Lies D V st ∧ Val V ∧ st + V.length = en ∧ delim (D.getD en 0)) := ⟨hS, hL, hV, hen, hE2⟩
  clear hS hL hV hen hE2
  go_enter Try.func15, Try.ntmps15
  go_wp2_with (go_at_call 22; refine (end22 g n cap st en D V w H.out.1 H.out.2.1 hn H.out.2.2.1 H.out.2.2.2.1 hE H.out.2.2.2.2).mono ?_; rintro e w' ⟨rfl, rfl⟩)
  go_ret
  exact ⟨rfl, rfl⟩

theorem tape_of_src {w : World} {ao : Option Addr} {m c : Nat} {ys : List Int} (h : Src w ao m c ys) (hb : ∀ i, i < m → 0 ≤ ys.getD i 0 ∧ ys.getD i 0 ≤ 255) : Tape w w.heap.size ao m := by
  intro h0
  obtain ⟨h1, h2, h3⟩ := h
  cases ao with
  | none => have := (h2 rfl).1; omega
  | some ad =>
    obtain ⟨bb, off, rfl, hc⟩ := at_plain (zs := ys) h0 (h3 ad rfl)
    refine ⟨bb, off, rfl, World.block_lt_of_cell? w _ (hc 0 h0), fun i hi => ⟨ys.getD i 0, (hb i hi).1, (hb i hi).2, hc i hi⟩⟩

def ValTop (w : World) (e : Ending) (w' : World) : Prop :=
  ∃ (p' : Nat) (av : Option Addr) (nv cv : Nat) (V : List Int), e = .returned (.tuple #[.int .i64 (p' : Int), .slice av nv cv]) ∧ Val V ∧ nv ≤ 1000000 ∧ Own w' w.heap.size 5 .u8 av nv cv V ∧ Below w.heap.size w w'

theorem val_top (ta : Option Addr) (tl tc : Nat) (w : World) (hT : Tape w w.heap.size ta tl) (ht : tl ≤ 70000) :
    Calls Try.prog 13 #[.slice ta tl tc, .int .i64 0, .int .i64 0, .slice none 0 0] w (ValTop w) := by
  have hE := Own.empty w w.heap.size 5 .u8
  have h := val_all 32 (by omega) ta tl tc 0 w.heap.size none 0 0 [] w 0 hT (by omega) (by omega) (by omega) (by omega) ht (by omega) hE (Nat.le_refl _)
  refine (show Calls Try.prog 13 #[.slice ta tl tc, .int .i64 0, .int .i64 0, .slice none 0 0] w _ from h).mono ?_
  rintro e w' ⟨p', ao', n', cap', ys, rfl, h2, h3, h4, hz, h5, h6⟩
  exact ⟨p', ao', n', cap', ys, rfl, hz.2, by omega, h5, hE.below h6 (Nat.le_refl _)⟩

/-- The value lies in the data. -/
theorem lies_mid (P V R : List Int) : Lies (P ++ V ++ R) V P.length := by
  refine ⟨by simp, ?_⟩
  intro k hk
  simp only [List.getD_eq_getElem?_getD]
  rw [List.append_assoc, List.getElem?_append_right (by omega), List.getElem?_append_left (by omega)]
  congr 2
  simp

theorem behind (P V R : List Int) : (P ++ V ++ R).getD (P.length + V.length) 0 = R.getD 0 0 := by
  simp only [List.getD_eq_getElem?_getD]
  rw [List.getElem?_append_right (by simp)]
  simp

theorem delim_behind {P V T : List Int} {y : Int} {n : Nat} (h : P.length + V.length = n) (hy : delim y) : delim ((P ++ V ++ [y] ++ T).getD n 0) := by
  subst h
  rw [List.append_assoc (P ++ V), behind]
  exact hy

theorem lies_three {P V R T : List Int} {n : Nat} (h : P.length = n) : Lies (P ++ V ++ R ++ T) V n := by
  subst h
  rw [List.append_assoc (P ++ V)]
  exact lies_mid P V _

theorem Own.sees {w : World} {B g n cap : Nat} {xs : List Int} (h : Own w B 5 .u8 (some ⟨g, 0, none⟩) n cap xs) : Sees w g n xs := ⟨h.len, fun i hi => h.cell i hi⟩

theorem Own.next {w w' : World} {B : Nat} {e : TypeId} {k : IntKind} {ao ao' : Option Addr} {n cap : Nat} {xs : List Int} {W : World} (hb : Below B W w) (h : Own w B e k ao n cap xs) (f : Eff w w' ao ao') (hB : B ≤ w.heap.size) : Below B W w' ∧ B ≤ w'.heap.size :=
  ⟨hb.trans (h.below f hB), Nat.le_trans hB f.size⟩

def Good (w : World) (e : Ending) (w' : World) : Prop := e = .returned (.bool true) ∧ Below w.heap.size w w'

set_option maxHeartbeats 1000000 in
theorem main_big (a0 a1 a2 : Option Addr) (l0 c0 l1 c1 l2 c2 : Nat) (q : Int) (w : World) (h : 1048576 < l0 + l1 + l2) (h0 : l0 ≤ 9223372036854775807) (h1 : l1 ≤ 9223372036854775807) (h2 : l2 ≤ 9223372036854775807) :
    Calls Try.prog 5 #[.slice a0 l0 c0, .slice a1 l1 c1, .slice a2 l2 c2, .int .u8 q] w (Good w) := by
  go_enter Try.func5, Try.ntmps5
  go_wp2_with (go_at_call 12; refine (bytes_no a0 a1 a2 l0 c0 l1 c1 l2 c2 q w h h0 h1 h2).mono ?_; rintro e w' ⟨rfl, rfl⟩)
  go_ret
  exact ⟨rfl, Below.refl _ _⟩

set_option maxHeartbeats 1000000 in
theorem main_over (a0 a1 a2 : Option Addr) (l0 c0 l1 c1 l2 c2 : Nat) (q : Int) (w : World) (h : l0 + l1 + l2 ≤ 1048576) (h1 : 65536 < l0 ∨ 262144 < l1 ∨ 262144 < l2) :
    Calls Try.prog 5 #[.slice a0 l0 c0, .slice a1 l1 c1, .slice a2 l2 c2, .int .u8 q] w (Good w) := by
  by_cases c0' : 65536 < l0
  · clear h1
    go_enter Try.func5, Try.ntmps5
    go_wp2_with (go_at_call 12; refine (bytes_yes a0 a1 a2 l0 c0 l1 c1 l2 c2 q w h).mono ?_; rintro e w' ⟨rfl, rfl⟩)
    go_ret
    exact ⟨rfl, Below.refl _ _⟩
  · by_cases c1' : 262144 < l1
    · clear h1
      go_enter Try.func5, Try.ntmps5
      go_wp2_with (go_at_call 12; refine (bytes_yes a0 a1 a2 l0 c0 l1 c1 l2 c2 q w h).mono ?_; rintro e w' ⟨rfl, rfl⟩)
      go_ret
      exact ⟨rfl, Below.refl _ _⟩
    · have c3' : 262144 < l2 := by omega
      clear h1
      go_enter Try.func5, Try.ntmps5
      go_wp2_with (go_at_call 12; refine (bytes_yes a0 a1 a2 l0 c0 l1 c1 l2 c2 q w h).mono ?_; rintro e w' ⟨rfl, rfl⟩)
      go_ret
      exact ⟨rfl, Below.refl _ _⟩

set_option maxRecDepth 10000 in
set_option maxHeartbeats 4000000 in
theorem main_go (a0 a1 a2 : Option Addr) (l0 c0 l1 c1 l2 c2 : Nat) (z0 z1 z2 : List Int) (q : Int) (w : World) (r0 : Row w a0 l0 c0 z0) (r1 : Row w a1 l1 c1 z1) (r2 : Row w a2 l2 c2 z2)
    (h : l0 + l1 + l2 ≤ 1048576) (h0 : l0 ≤ 65536) (h1 : l1 ≤ 262144) (h2 : l2 ≤ 262144) (hq0 : 0 ≤ q) (hq1 : q ≤ 255) :
    Calls Try.prog 5 #[.slice a0 l0 c0, .slice a1 l1 c1, .slice a2 l2 c2, .int .u8 q] w (Good w) := by
  have hby : Hid (∀ i, i < l0 → 0 ≤ (z0.take l0).getD i 0 ∧ (z0.take l0).getD i 0 ≤ 255) := by
    intro i hi
    have := r0.bytes i hi
    simpa [List.getD, List.getElem?_take, hi] using this
  go_enter Try.func5, Try.ntmps5
  go_wp2_with (go_at_call 12; refine (bytes_yes a0 a1 a2 l0 c0 l1 c1 l2 c2 q _ h).mono ?_; rintro e w0 ⟨rfl, rfl⟩)
  refine (clone0 _ a0 l0 c0 z0 r0 (by omega)).mono ?_
  rintro e w1 ⟨t0, d0, rfl, s0, b1⟩
  go_wp2_with fail
  refine (clone0 _ a1 l1 c1 z1 (r1.carry b1) (by omega)).mono ?_
  rintro e w2 ⟨t1, d1, rfl, s1, b2⟩
  go_wp2_with fail
  refine (clone0 _ a2 l2 c2 z2 ((r2.carry b1).carry b2) (by omega)).mono ?_
  rintro e w3 ⟨t2, d2, rfl, s2, b3⟩
  go_wp2_with fail
  refine (val_top t0 l0 d0 _ (tape_of_src ((s0.of b2).of b3) hby.out) (by omega)).mono ?_
  rintro e w4 ⟨pv, av, nv, cv, V, rfl, hV, hnv, hVo, b4⟩
  have sP := (s1.of b3).of b4
  have hsz := b4.size
  have hVl : Hid (V.length = nv) := hVo.len
  go_wp2_with (first | (at_builtin; refine wpX rfl (.tmp 38) (.tmp 39) rfl _ none 0 0 [] rfl (Own.empty _ _ _ _) t1 _ l1 d1 sP.1 rfl sP.2.1 sP.2.2 (by omega) hsz ?_; intro e1 k1 w5 hD1 f1; simp only [Nat.zero_add, List.nil_append] at hD1; have n1 := Own.next b4 (Own.empty _ _ 5 .u8) f1 hsz; have hV2 := (hVo.kept f1 (Apart.empty _).symm).src) | (at_builtin; refine wpX rfl (.tmp 41) (.tmp 42) rfl _ e1 l1 k1 _ rfl hD1 av V nv cv hVl.out rfl hV2.2.1 hV2.2.2 (by omega) n1.2 ?_; intro e2 k2 w6 hD2 f2; have n2 := Own.next n1.1 hD1 f2 n1.2) | (go_at_call 14; refine (sep0 q _ hq0 hq1).mono ?_; rintro e w7 ⟨y, rfl, hy, rfl⟩; have HY : Hid (delim y) := hy; clear hy) | (at_builtin; refine wpB rfl (.tmp 44) (.tmp 47) rfl _ _ _ _ _ rfl hD2 [_] 1 1 rfl rfl (by omega) n2.2 ?_; intro e3 k3 w8 hD3 f3; have n3 := Own.next n2.1 hD2 f3 n2.2; have sT := s2.of n3.1) | (at_builtin; refine wpX rfl (.tmp 49) (.tmp 50) rfl _ e3 _ k3 _ rfl hD3 t2 _ l2 d2 sT.1 rfl sT.2.1 sT.2.2 (by omega) n3.2 ?_; intro e4 k4 w9 hD4 f4; have n4 := Own.next n3.1 hD3 f4 n3.2; obtain ⟨g4, rfl, hg4a, hg4b⟩ := hD4.head (by omega)) | (go_at_call 15; refine (zzEnd0 g4 _ k4 l1 (l1 + nv) _ V w9 hD4.sees (lies_three sP.1) (by omega) hV (by have := hVl.out; omega) (by omega) (delim_behind (by rw [sP.1, hVl.out]) HY.out)).mono ?_; rintro e w10 ⟨rfl, rfl⟩))
  go_ret
  exact ⟨by simp, ((b1.trans (b2.mono b1.size)).trans (b3.mono (Nat.le_trans b1.size b2.size))).trans (n4.1.mono (Nat.le_trans b1.size (Nat.le_trans b2.size b3.size)))⟩
end Go.Proofs.Qxb6001622a
