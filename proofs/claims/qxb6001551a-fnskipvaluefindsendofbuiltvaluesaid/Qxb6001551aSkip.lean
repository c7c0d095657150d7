/-
  THE WALKS OF THE READER UNDER TEST: strings.IndexByte at the delimiters, skipString, skipValue.
-/
import Derived.Test.Qxb6001551aLeaf
import Derived.Lib.Bytealg
namespace Go.Proofs.Qxb6001551a
open Go.RowKit
set_option linter.unusedVariables false

set_option maxHeartbeats 400000 in
theorem idx1 (s : ByteArray) (c : Int) (w : World) :
    Calls Try.prog 31 #[.string s, .int .u8 c] w fun e w' => e = .returned (.int .i64 (Lib.indexByte s.data.toList c.toNat.toUInt8)) ∧ w' = w := by
  go_enter Try.func31, Try.ntmps31
  go_wp2
  rw [run_callFunc_extern Try.func32 (by kernel_rfl) (by kernel_rfl) (by kernel_rfl) (e := Extern.BytealgIndexByte.indexByte) (by kernel_rfl), Lib.run_indexByteString]
  simp only [Result.andThen]
  rw [Oper.upon_value]
  go_wp2
  go_ret
  exact ⟨rfl, rfl⟩

set_option maxHeartbeats 400000 in
theorem idx0 (s : ByteArray) (c : Int) (w : World) :
    Calls Try.prog 28 #[.string s, .int .u8 c] w fun e w' => e = .returned (.int .i64 (Lib.indexByte s.data.toList c.toNat.toUInt8)) ∧ w' = w := by
  go_enter Try.func28, Try.ntmps28
  go_wp2_with (go_at_call 31; refine (idx1 _ _ _).mono ?_; rintro e w' ⟨rfl, rfl⟩)
  go_ret
  exact ⟨rfl, rfl⟩

/-- Is c one of the delimiters? -/
def delim (c : Int) : Prop := c = 44 ∨ c = 125 ∨ c = 93 ∨ c = 32 ∨ c = 9 ∨ c = 10 ∨ c = 13

theorem idx_neg : ∀ c : Nat, c < 256 → ((c = 44 ∨ c = 125 ∨ c = 93 ∨ c = 32 ∨ c = 9 ∨ c = 10 ∨ c = 13) ∧ 0 ≤ Lib.indexByte [44, 125, 93, 32, 9, 10, 13] c.toUInt8) ∨ (¬(c = 44 ∨ c = 125 ∨ c = 93 ∨ c = 32 ∨ c = 9 ∨ c = 10 ∨ c = 13) ∧ Lib.indexByte [44, 125, 93, 32, 9, 10, 13] c.toUInt8 < 0) := by decide +kernel

theorem idx_yes (c : Int) (h0 : 0 ≤ c) (h1 : c ≤ 255) (h : delim c) : 0 ≤ Lib.indexByte [44, 125, 93, 32, 9, 10, 13] c.toNat.toUInt8 := by
  unfold delim at h
  rcases idx_neg c.toNat (by omega) with g | g
  · exact g.2
  · exfalso; apply g.1; omega
theorem idx_no (c : Int) (h0 : 0 ≤ c) (h1 : c ≤ 255) (h : ¬ delim c) : Lib.indexByte [44, 125, 93, 32, 9, 10, 13] c.toNat.toUInt8 < 0 := by
  unfold delim at h
  rcases idx_neg c.toNat (by omega) with g | g
  · exfalso; apply h; omega
  · exact g.2

/-- What the skippers see: the slice's cells. -/
def Sees (w : World) (g n : Nat) (D : List Int) : Prop := D.length = n ∧ ∀ i, i < n → w.cell? ⟨g, i, none⟩ = some (.int .u8 (D.getD i 0))

/-- A value V lies in D from st on. -/
def Lies (D V : List Int) (st : Nat) : Prop := st + V.length ≤ D.length ∧ ∀ k, k < V.length → D.getD (st + k) 0 = V.getD k 0

/-- The reader's state at the index i of D, the value beginning at st; what it reads there. -/
def sta (V : List Int) (st i : Nat) : Nat × Nat := at_ V (i - st)

theorem sta_succ {D V : List Int} {st i : Nat} (hL : Lies D V st) (h0 : st ≤ i) (h1 : i < st + V.length) {c : Int} (hc : c = D.getD i 0) : sta V st (i + 1) = stp (sta V st i) c := by
  unfold sta
  have e : i + 1 - st = (i - st) + 1 := by omega
  rw [e, at_succ V (i - st) (by omega), hc]
  have := hL.2 (i - st) (by omega)
  rw [show st + (i - st) = i by omega] at this
  rw [this]

theorem sta_lt {V : List Int} {st i : Nat} (hV : rd (0, 0) V = (3, 0)) (h0 : st ≤ i) (h1 : i ≤ st + V.length) (h : (sta V st i).1 ≠ 3) : i < st + V.length := by
  by_cases e : i = st + V.length
  · subst e
    exfalso
    apply h
    unfold sta
    rw [show st + V.length - st = V.length by omega, at_end, hV]
  · omega

set_option maxHeartbeats 1000000 in
theorem skipStr0 (g n cap st i0 d : Nat) (D V : List Int) (w : World) (hS : Sees w g n D) (hL : Lies D V st) (hn : n ≤ 1000000000) (hV : rd (0, 0) V = (3, 0))
    (h0 : st ≤ i0) (hk : i0 < st + V.length) (ha : sta V st i0 = (0, d)) (hc : D.getD i0 0 = 34) :
    Calls Try.prog 20 #[.slice (some ⟨g, 0, none⟩) n cap, .int .i64 (i0 : Int)] w fun e w' => ∃ i1 : Nat, e = .returned (.int .i64 (i1 : Int)) ∧ i0 < i1 ∧ i1 ≤ st + V.length ∧ sta V st i1 = stand d ∧ w' = w := by
  have hlen : st + V.length ≤ n := by have := hL.1; have := hS.1; omega
  have H : Hid (Sees w g n D ∧ Lies D V st ∧ rd (0, 0) V = (3, 0)) := ⟨hS, hL, hV⟩
  have h1 : Hid (sta V st (i0 + 1) = (1, d)) := by
    show sta V st (i0 + 1) = (1, d)
    rw [sta_succ hL h0 hk hc.symm, ha]; simp [stp]
  clear hS hL hV ha hc
  go_enter Try.func20, Try.ntmps20
  go_wp2
  go_loop [1] (fun vi => ∃ i : Nat, i0 < i ∧ i ≤ st + V.length ∧ vi = .int .i64 (i : Int) ∧ Hid (sta V st i = (1, d))) (fun vi => st + V.length - (intOf vi).toNat)
  case atStart => exact ⟨i0 + 1, by omega, by omega, by go_num, h1⟩
  case round =>
    obtain ⟨i, hk1, hk2, rfl, hat⟩ := hrel
    have hlt : i < st + V.length := sta_lt H.out.2.2 (by omega) hk2 (by rw [hat.out]; simp)
    obtain ⟨c, hc⟩ : ∃ c, c = D.getD i 0 := ⟨_, rfl⟩
    have hcell : w.cell? ⟨g, i, none⟩ = some (.int .u8 c) := by rw [hc]; exact H.out.1.2 i (by omega)
    have hs := sta_succ H.out.2.1 (by omega) hlt hc
    rw [hat.out] at hs
    by_cases c34 : c = 34
    · have hs' : Hid (sta V st (i + 1) = stand d) := by
        show sta V st (i + 1) = stand d
        rw [hs]; simp [stp, c34, stand]
      subst c34
      clear hs hc
      go_wp2
      go_ret
      exact ⟨i + 1, by go_num, by omega, by omega, hs'.out, rfl⟩
    · by_cases c92 : c = 92
      · have hs' : sta V st (i + 1) = (2, d) := by rw [hs]; simp [stp, c92]
        have hlt2 : i + 1 < st + V.length := sta_lt H.out.2.2 (by omega) (by omega) (by rw [hs']; simp)
        have hs2 := sta_succ H.out.2.1 (by omega) hlt2 (c := D.getD (i + 1) 0) rfl
        rw [hs'] at hs2
        have hs3 : Hid (sta V st (i + 2) = (1, d)) := by
          show sta V st (i + 1 + 1) = (1, d)
          rw [hs2]; simp [stp]
        subst c92
        clear hs hc hs' hs2
        go_wp2
        go_round
        case rel => exact ⟨i + 2, by omega, by omega, by go_num, hs3⟩
        case measure => simp [intOf]; omega
      · have hs' : Hid (sta V st (i + 1) = (1, d)) := by
          show sta V st (i + 1) = (1, d)
          rw [hs]; simp [stp, c92, c34]
        clear hs hc
        go_wp2
        go_round
        case rel => exact ⟨i + 1, by omega, by omega, by go_num, hs'⟩
        case measure => simp [intOf]; omega
end Go.Proofs.Qxb6001551a
