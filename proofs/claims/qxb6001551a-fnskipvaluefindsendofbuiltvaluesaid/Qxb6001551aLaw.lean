/-
  THE LAW's LONG WAY: within the bounds.
-/
import Derived.Test.Qxb6001551aMain
namespace Go.Proofs.Qxb6001551a
open Go.RowKit
set_option linter.unusedVariables false

theorem Val.pos {V : List Int} (h : Val V) : 0 < V.length := by
  rcases h with h | ⟨h, _⟩
  · exact (first_byte h).1
  · exact List.length_pos_iff.2 h

theorem Own.src {w : World} {B : Nat} {e : TypeId} {k : IntKind} {g n cap : Nat} {xs : List Int} (h : Own w B e k (some ⟨g, 0, none⟩) n cap xs) :
    ∀ ad, some (⟨g, 0, none⟩ : Addr) = some ad → ∀ j, j < n → w.cell? (ad.add j) = some (.int k (xs.getD j 0)) := by
  intro ad had j hj
  obtain rfl := Option.some.inj had
  rw [Addr.add_lit, Nat.zero_add]
  exact h.cell j hj

theorem no_none {x : Addr} {p : Prop} : some x = none → p := fun h => by cases h

/-- The value lies in the data. -/
theorem lies_mid (P V R : List Int) : Lies (P ++ V ++ R) V P.length := by
  refine ⟨by simp, ?_⟩
  intro k hk
  simp only [List.getD_eq_getElem?_getD]
  rw [List.append_assoc, List.getElem?_append_right (by omega), List.getElem?_append_left (by omega)]
  congr 2
  simp

theorem behind (P V R : List Int) : (P ++ V ++ R).getD (P.length + V.length) 0 = R.getD 0 0 := by
  simp only [List.getD_eq_getElem?_getD]
  rw [List.getElem?_append_right (by simp)]
  simp

theorem Own.sees {w : World} {B g n cap : Nat} {xs : List Int} (h : Own w B 5 .u8 (some ⟨g, 0, none⟩) n cap xs) : Sees w g n xs := ⟨h.len, fun i hi => h.cell i hi⟩

theorem delim_at (i : Nat) (h : i < ({ data := #[44, 125, 93, 32, 9, 10, 13] } : ByteArray).size) : delim ((({ data := #[44, 125, 93, 32, 9, 10, 13] } : ByteArray)[i]'h).toNat : Int) := by
  have h7 : i < 7 := h
  match i, h7 with
  | 0, _ => exact .inl rfl
  | 1, _ => exact .inr (.inl rfl)
  | 2, _ => exact .inr (.inr (.inl rfl))
  | 3, _ => exact .inr (.inr (.inr (.inl rfl)))
  | 4, _ => exact .inr (.inr (.inr (.inr (.inl rfl))))
  | 5, _ => exact .inr (.inr (.inr (.inr (.inr (.inl rfl)))))
  | 6, _ => exact .inr (.inr (.inr (.inr (.inr (.inr rfl)))))

theorem delim_behind {P V T : List Int} {y : Int} {n : Nat} (h : P.length + V.length = n) (hy : delim y) : delim ((P ++ V ++ [y] ++ T).getD n 0) := by
  subst h
  rw [List.append_assoc (P ++ V), behind]
  exact hy

theorem lies_three {P V R T : List Int} {n : Nat} (h : P.length = n) : Lies (P ++ V ++ R ++ T) V n := by
  subst h
  rw [List.append_assoc (P ++ V)]
  exact lies_mid P V _

theorem zzSkip1 (g n cap st en : Nat) (D V : List Int) (w : World) (hS : Sees w g n D) (hL : Lies D V st) (hn : n ≤ 1000000000) (hV : Val V)
    (hen : st + V.length = en) (hE : en = n ∨ (en < n ∧ delim (D.getD en 0))) :
    Calls Try.prog 10 #[.slice (some ⟨g, 0, none⟩) n cap, .int .i64 (st : Int)] w fun e w' => e = .returned (.int .i64 (en : Int)) ∧ w' = w := by
  subst hen
  exact zzSkip0 g n cap st D V w hS hL hn hV hE

theorem lies_one {P V : List Int} {n : Nat} (h : P.length = n) : Lies (P ++ V) V n := by
  subst h
  have := lies_mid P V []
  simpa using this

theorem lies_two {P V R : List Int} {n : Nat} (h : P.length = n) : Lies (P ++ V ++ R) V n := by
  subst h
  exact lies_mid P V R

theorem Own.next {w w' : World} {B : Nat} {e : TypeId} {k : IntKind} {ao ao' : Option Addr} {n cap : Nat} {xs : List Int} {W : World} (hb : Below B W w) (h : Own w B e k ao n cap xs) (f : Eff w w' ao ao') (hB : B ≤ w.heap.size) : Below B W w' ∧ B ≤ w'.heap.size :=
  ⟨hb.trans (h.below f hB), Nat.le_trans hB f.size⟩

set_option maxRecDepth 10000 in
set_option maxHeartbeats 2000000 in
theorem main_end (a0 a1 a3 : Option Addr) (l0 c0 l1 c1 l3 c3 : Nat) (z0 z1 z3 : List Int) (q : Int) (w : World) (r0 : Row w a0 l0 c0 z0) (r1 : Row w a1 l1 c1 z1) (r3 : Row w a3 l3 c3 z3)
    (h : l0 + l1 + l3 ≤ 1048576) (h0 : l0 ≤ 262144) (h1 : l1 ≤ 16384) (h3 : l3 ≤ 262144) (hq0 : 0 ≤ q) (hq1 : q ≤ 255) (h7 : q % 8 = 7) :
    Calls Try.prog 4 #[.slice a0 l0 c0, .slice a1 l1 c1, .int .u8 q, .slice a3 l3 c3] w (Good w) := by
  have h7' : (q % 8 == 7) = true := by simp [h7]
  go_enter Try.func4, Try.ntmps4
  go_wp2_with (first | (go_at_call 13; refine (bytes_yes a0 a1 a3 l0 c0 l1 c1 l3 c3 q _ h).mono ?_; rintro e w' ⟨rfl, rfl⟩) | (go_at_call 14; refine (build0 _ a1 l1 c1 z1 r1 h1).mono ?_; rintro e w1 ⟨av, nv, cv, V, kv, rfl, hV, hnv, hVo, hbel⟩; have hVl : Hid (V.length = nv) := hVo.len; obtain ⟨gv, rfl, hgv1, hgv2⟩ := hVo.head (by have := hV.pos; have := hVl.out; omega); have hsz := hbel.size) | (at_builtin; refine wpX rfl (.tmp 47) (.tmp 48) rfl _ none 0 0 [] rfl (Own.empty _ _ _ _) a0 (z0.take l0) l0 c0 r0.take rfl r0.nothing (r0.cell hbel) (by omega) hsz ?_; intro d1 k1 w2 hD1 f1; simp only [Nat.zero_add, List.nil_append] at hD1; have n1 := Own.next hbel (Own.empty _ _ 5 .u8) f1 hsz; have hV2 := hVo.kept f1 (Apart.empty _).symm; have p1 := hVo.apart f1 (Apart.empty _).symm) | (at_builtin; refine wpX rfl (.tmp 52) (.tmp 53) rfl _ d1 l0 k1 _ rfl hD1 (some ⟨gv, 0, none⟩) V nv cv hVl.out rfl no_none hV2.src (by omega) n1.2 ?_; intro d2 k2 w3 hD2 f2; have n2 := Own.next n1.1 hD1 f2 n1.2; obtain ⟨g2, rfl, hg2a, hg2b⟩ := hD2.head (by have := hV.pos; have := hVl.out; omega)) | (go_at_call 10; refine (zzSkip1 g2 (l0 + nv) k2 l0 (l0 + nv) _ V w3 hD2.sees (lies_one r0.take) (by omega) hV (by have := hVl.out; omega) (.inl rfl)).mono ?_; rintro e w4 ⟨rfl, rfl⟩))
  go_ret
  exact ⟨by simp, n2.1⟩

set_option maxRecDepth 10000 in
set_option maxHeartbeats 2000000 in
theorem main_more (a0 a1 a3 : Option Addr) (l0 c0 l1 c1 l3 c3 : Nat) (z0 z1 z3 : List Int) (q : Int) (w : World) (r0 : Row w a0 l0 c0 z0) (r1 : Row w a1 l1 c1 z1) (r3 : Row w a3 l3 c3 z3)
    (h : l0 + l1 + l3 ≤ 1048576) (h0 : l0 ≤ 262144) (h1 : l1 ≤ 16384) (h3 : l3 ≤ 262144) (hq0 : 0 ≤ q) (hq1 : q ≤ 255) (h7 : q % 8 < 7) :
    Calls Try.prog 4 #[.slice a0 l0 c0, .slice a1 l1 c1, .int .u8 q, .slice a3 l3 c3] w (Good w) := by
  have h7' : (q % 8 == 7) = false := by simp; omega
  go_enter Try.func4, Try.ntmps4
  go_wp2_with (first | (go_at_call 13; refine (bytes_yes a0 a1 a3 l0 c0 l1 c1 l3 c3 q _ h).mono ?_; rintro e w' ⟨rfl, rfl⟩) | (go_at_call 14; refine (build0 _ a1 l1 c1 z1 r1 h1).mono ?_; rintro e w1 ⟨av, nv, cv, V, kv, rfl, hV, hnv, hVo, hbel⟩; have hVl : Hid (V.length = nv) := hVo.len; obtain ⟨gv, rfl, hgv1, hgv2⟩ := hVo.head (by have := hV.pos; have := hVl.out; omega); have hsz := hbel.size) | (at_builtin; refine wpX rfl (.tmp 47) (.tmp 48) rfl _ none 0 0 [] rfl (Own.empty _ _ _ _) a0 (z0.take l0) l0 c0 r0.take rfl r0.nothing (r0.cell hbel) (by omega) hsz ?_; intro d1 k1 w2 hD1 f1; simp only [Nat.zero_add, List.nil_append] at hD1; have n1 := Own.next hbel (Own.empty _ _ 5 .u8) f1 hsz; have hV2 := hVo.kept f1 (Apart.empty _).symm; have p1 := hVo.apart f1 (Apart.empty _).symm) | (at_builtin; refine wpX rfl (.tmp 52) (.tmp 53) rfl _ d1 l0 k1 _ rfl hD1 (some ⟨gv, 0, none⟩) V nv cv hVl.out rfl no_none hV2.src (by omega) n1.2 ?_; intro d2 k2 w3 hD2 f2; have n2 := Own.next n1.1 hD1 f2 n1.2; obtain ⟨g2, rfl, hg2a, hg2b⟩ := hD2.head (by have := hV.pos; have := hVl.out; omega)) | (at_builtin; refine wpB rfl (.tmp 60) (.tmp 64) rfl _ _ _ _ _ rfl hD2 [_] 1 1 rfl rfl (by omega) n2.2 ?_; intro d3 k3 w4 hD3 f3; have n3 := Own.next n2.1 hD2 f3 n2.2) | (at_builtin; refine wpX rfl (.tmp 66) (.tmp 67) rfl _ d3 _ k3 _ rfl hD3 a3 (z3.take l3) l3 c3 r3.take rfl r3.nothing (r3.cell n3.1) (by omega) n3.2 ?_; intro d4 k4 w5 hD4 f4; have n4 := Own.next n3.1 hD3 f4 n3.2; obtain ⟨g4, rfl, hg4a, hg4b⟩ := hD4.head (by omega)) | (go_at_call 10; refine (zzSkip1 g4 _ k4 l0 (l0 + nv) _ V w5 hD4.sees (lies_three r0.take) (by omega) hV (by have := hVl.out; omega) (.inr ⟨by omega, delim_behind (by rw [r0.take, hVl.out]) (delim_at _ _)⟩)).mono ?_; rintro e w6 ⟨rfl, rfl⟩))
  go_ret
  exact ⟨by simp, n4.1⟩
end Go.Proofs.Qxb6001551a
