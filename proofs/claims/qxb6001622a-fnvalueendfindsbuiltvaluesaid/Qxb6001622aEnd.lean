/-
  THE WALK OF valueEnd.
-/
import Derived.Test.Qxb6001622aTape
import Derived.Lib.Bytealg
namespace Go.Proofs.Qxb6001622a
open Go.RowKit
set_option linter.unusedVariables false

theorem ret_int {k : IntKind} {a b : Int} (h : a = b) : Ending.returned (.int k a) = .returned (.int k b) := by rw [h]

set_option maxHeartbeats 400000 in
theorem idx1 (s : ByteArray) (c : Int) (w : World) :
    Calls Try.prog 27 #[.string s, .int .u8 c] w fun e w' => e = .returned (.int .i64 (Lib.indexByte s.data.toList c.toNat.toUInt8)) ∧ w' = w := by
  go_enter Try.func27, Try.ntmps27
  go_wp2
  rw [run_callFunc_extern Try.func28 (by kernel_rfl) (by kernel_rfl) (by kernel_rfl) (e := Extern.BytealgIndexByte.indexByte) (by kernel_rfl), Lib.run_indexByteString]
  simp only [Result.andThen]
  rw [Oper.upon_value]
  go_wp2
  go_ret
  exact ⟨rfl, rfl⟩

set_option maxHeartbeats 400000 in
theorem idx0 (s : ByteArray) (c : Int) (w : World) :
    Calls Try.prog 26 #[.string s, .int .u8 c] w fun e w' => e = .returned (.int .i64 (Lib.indexByte s.data.toList c.toNat.toUInt8)) ∧ w' = w := by
  go_enter Try.func26, Try.ntmps26
  go_wp2_with (go_at_call 27; refine (idx1 _ _ _).mono ?_; rintro e w' ⟨rfl, rfl⟩)
  go_ret
  exact ⟨rfl, rfl⟩

/-- Is c one of the delimiters? -/
def delim (c : Int) : Prop := c = 44 ∨ c = 125 ∨ c = 93 ∨ c = 32 ∨ c = 9 ∨ c = 10 ∨ c = 13

theorem idx_neg : ∀ c : Nat, c < 256 → ((c = 44 ∨ c = 125 ∨ c = 93 ∨ c = 32 ∨ c = 9 ∨ c = 10 ∨ c = 13) ∧ 0 ≤ Lib.indexByte [44, 125, 93, 32, 9, 13, 10] c.toUInt8) ∨ (¬(c = 44 ∨ c = 125 ∨ c = 93 ∨ c = 32 ∨ c = 9 ∨ c = 10 ∨ c = 13) ∧ Lib.indexByte [44, 125, 93, 32, 9, 13, 10] c.toUInt8 < 0) := by decide +kernel

theorem idx_yes (c : Int) (h0 : 0 ≤ c) (h1 : c ≤ 255) (h : delim c) : 0 ≤ Lib.indexByte [44, 125, 93, 32, 9, 13, 10] c.toNat.toUInt8 := by
  unfold delim at h
  rcases idx_neg c.toNat (by omega) with g | g
  · exact g.2
  · exfalso; apply g.1; omega
theorem idx_no (c : Int) (h0 : 0 ≤ c) (h1 : c ≤ 255) (h : ¬ delim c) : Lib.indexByte [44, 125, 93, 32, 9, 13, 10] c.toNat.toUInt8 < 0 := by
  unfold delim at h
  rcases idx_neg c.toNat (by omega) with g | g
  · exfalso; apply h; omega
  · exact g.2

theorem idx_d (c : Int) (w : World) (h0 : 0 ≤ c) (h1 : c ≤ 255) (h : delim c) :
    Calls Try.prog 26 #[.string { data := #[44, 125, 93, 32, 9, 13, 10] }, .int .u8 c] w fun e w' => ∃ z : Int, e = .returned (.int .i64 z) ∧ 0 ≤ z ∧ w' = w :=
  (idx0 _ c w).mono fun e w' he => ⟨_, he.1, idx_yes c h0 h1 h, he.2⟩
theorem idx_n (c : Int) (w : World) (h0 : 0 ≤ c) (h1 : c ≤ 255) (h : ¬ delim c) :
    Calls Try.prog 26 #[.string { data := #[44, 125, 93, 32, 9, 13, 10] }, .int .u8 c] w fun e w' => ∃ z : Int, e = .returned (.int .i64 z) ∧ z < 0 ∧ w' = w :=
  (idx0 _ c w).mono fun e w' he => ⟨_, he.1, idx_no c h0 h1 h, he.2⟩

/-- What the reader under test sees: the slice's cells. -/
def Sees (w : World) (g n : Nat) (D : List Int) : Prop := D.length = n ∧ ∀ i, i < n → w.cell? ⟨g, i, none⟩ = some (.int .u8 (D.getD i 0))

/-- A value V lies in D from st on. -/
def Lies (D V : List Int) (st : Nat) : Prop := st + V.length ≤ D.length ∧ ∀ k, k < V.length → D.getD (st + k) 0 = V.getD k 0

/-- The reader's state at the index i of D, the value beginning at st. -/
def sta (V : List Int) (st i : Nat) : Nat × Nat := at_ V (i - st)

theorem sta_succ {D V : List Int} {st i : Nat} (hL : Lies D V st) (h0 : st ≤ i) (h1 : i < st + V.length) {c : Int} (hc : c = D.getD i 0) : sta V st (i + 1) = stp (sta V st i) c := by
  unfold sta
  have e : i + 1 - st = (i - st) + 1 := by omega
  rw [e, at_succ V (i - st) (by omega), hc]
  have := hL.2 (i - st) (by omega)
  rw [show st + (i - st) = i by omega] at this
  rw [this]

theorem sta_lt {V : List Int} {st i : Nat} (hV : rd (0, 0) V = (3, 0)) (h0 : st ≤ i) (h1 : i ≤ st + V.length) (h : (sta V st i).1 ≠ 3) : i < st + V.length := by
  by_cases e : i = st + V.length
  · subst e
    exfalso
    apply h
    unfold sta
    rw [show st + V.length - st = V.length by omega, at_end, hV]
  · omega

theorem first_byte {V : List Int} (hV : rd (0, 0) V = (3, 0)) : 0 < V.length ∧ (V.getD 0 0 = 34 ∨ V.getD 0 0 = 123 ∨ V.getD 0 0 = 91) := by
  cases V with
  | nil => simp [rd] at hV
  | cons c V =>
    refine ⟨by simp, ?_⟩
    rw [rd_cons] at hV
    simp only [List.getD_cons_zero]
    by_cases h1 : c = 34
    · exact .inl h1
    · by_cases h2 : c = 123 ∨ c = 91
      · rcases h2 with h2 | h2
        · exact .inr (.inl h2)
        · exact .inr (.inr h2)
      · exfalso
        have e : stp (0, 0) c = (4, 0) := by simp [stp, h1, h2]
        rw [e] at hV
        by_cases hn : V = []
        · subst hn; simp [rd] at hV
        · rw [rd_dead V (4, 0) (.inr rfl) hn] at hV; simp at hV

theorem sta_done {V : List Int} {st i : Nat} (hV : rd (0, 0) V = (3, 0)) (h0 : st ≤ i) (h1 : i ≤ st + V.length) (h : sta V st i = (3, 0)) : i = st + V.length := by
  have := done_at V hV (i - st) (by omega) h
  omega

theorem sta_start (V : List Int) (st : Nat) : sta V st st = (0, 0) := by simp [sta, at_zero]

set_option maxRecDepth 10000 in
set_option maxHeartbeats 4000000 in
theorem endVal0 (g n cap st : Nat) (D V : List Int) (w : World) (hS : Sees w g n D) (hL : Lies D V st) (hn : n ≤ 1000000000) (hV : rd (0, 0) V = (3, 0)) :
    Calls Try.prog 22 #[.slice (some ⟨g, 0, none⟩) n cap, .int .i64 (st : Int)] w fun e w' => e = .returned (.int .i64 ((st + V.length : Nat) : Int)) ∧ w' = w := by
  obtain ⟨hp, hf⟩ := first_byte hV
  have hlen : st + V.length ≤ n := by have := hL.1; have := hS.1; omega
  have HF : Hid (D.getD st 0 = 34 ∨ D.getD st 0 = 123 ∨ D.getD st 0 = 91) := by
    show D.getD st 0 = 34 ∨ D.getD st 0 = 123 ∨ D.getD st 0 = 91
    have := hL.2 0 hp
    simp only [Nat.add_zero] at this
    rw [this]; exact hf
  have H : Hid (Sees w g n D ∧ Lies D V st ∧ rd (0, 0) V = (3, 0)) := ⟨hS, hL, hV⟩
  clear hS hL hV hf
  go_enter Try.func22, Try.ntmps22
  go_wp2
  go_loop [1, 5] (fun vi vd => ∃ i d : Nat, st ≤ i ∧ i ≤ st + V.length ∧ d ≤ i ∧ Hid (d = 0 → i = st) ∧ vi = .int .i64 (i : Int) ∧ vd = .int .i64 (d : Int) ∧ Hid (sta V st i = (0, d))) (fun vi _ => st + V.length - (intOf vi).toNat)
  case atStart => exact ⟨st, 0, by omega, by omega, by omega, fun _ => rfl, rfl, rfl, sta_start V st⟩
  case round =>
    obtain ⟨i, d, hk0, hk1, hdi, hd0, rfl, rfl, hat⟩ := hrel
    have hlt : i < st + V.length := sta_lt H.out.2.2 hk0 hk1 (by rw [hat.out]; simp)
    obtain ⟨c, hc⟩ : ∃ c, c = D.getD i 0 := ⟨_, rfl⟩
    have hcell : w.cell? ⟨g, i, none⟩ = some (.int .u8 c) := by rw [hc]; exact H.out.1.2 i (by omega)
    have hs := sta_succ H.out.2.1 hk0 hlt hc
    rw [hat.out] at hs
    have hz : d = 0 → c = 34 ∨ c = 123 ∨ c = 91 := fun h => by rw [hc, hd0.out h]; exact HF.out
    by_cases c34 : c = 34
    · have h1 : Hid (sta V st (i + 1) = (1, d)) := by
        show sta V st (i + 1) = (1, d)
        rw [hs]; simp [stp, c34]
      subst c34
      clear hs hc hz
      go_wp2
      go_loop [1] (fun vi => ∃ j : Nat, i < j ∧ j ≤ st + V.length ∧ vi = .int .i64 (j : Int) ∧ Hid (sta V st j = (1, d))) (fun vi => st + V.length - (intOf vi).toNat)
      case atStart => exact ⟨i + 1, by omega, by omega, by go_num, h1⟩
      case round =>
        obtain ⟨j, hj1, hj2, rfl, haj⟩ := hrel
        have hltj : j < st + V.length := sta_lt H.out.2.2 (by omega) hj2 (by rw [haj.out]; simp)
        obtain ⟨c, hc⟩ : ∃ c, c = D.getD j 0 := ⟨_, rfl⟩
        have hcellj : w.cell? ⟨g, j, none⟩ = some (.int .u8 c) := by rw [hc]; exact H.out.1.2 j (by omega)
        have hs := sta_succ H.out.2.1 (by omega) hltj hc
        rw [haj.out] at hs
        by_cases c34 : c = 34
        · have hs' : Hid (sta V st (j + 1) = stand d) := by
            show sta V st (j + 1) = stand d
            rw [hs]; simp [stp, c34, stand]
          subst c34
          clear hs hc
          by_cases hd : d = 0
          · have hend : Hid (j + 1 = st + V.length) := sta_done H.out.2.2 (by omega) (by omega) (by rw [hs'.out, hd]; rfl)
            subst hd
            go_wp2
            go_ret
            exact ⟨ret_int (by have := hend.out; omega), rfl⟩
          · have hs2 : Hid (sta V st (j + 1) = (0, d)) := by
              show sta V st (j + 1) = (0, d)
              rw [hs'.out]; simp [stand, hd]
            have hdz : ((d : Int) == 0) = false := by simp; omega
            clear hs'
            go_wp2
            go_round
            case rel => exact ⟨j + 1, d, by omega, by omega, by omega, fun h => by omega, by go_num, by go_num, hs2⟩
            case measure => simp [intOf]; omega
        · by_cases c92 : c = 92
          · have hs' : sta V st (j + 1) = (2, d) := by rw [hs]; simp [stp, c92]
            have hlt2 : j + 1 < st + V.length := sta_lt H.out.2.2 (by omega) (by omega) (by rw [hs']; simp)
            have hs2 := sta_succ H.out.2.1 (by omega) hlt2 (c := D.getD (j + 1) 0) rfl
            rw [hs'] at hs2
            have hs3 : Hid (sta V st (j + 2) = (1, d)) := by
              show sta V st (j + 1 + 1) = (1, d)
              rw [hs2]; simp [stp]
            subst c92
            clear hs hc hs' hs2
            go_wp2
            go_round
            case rel => exact ⟨j + 2, by omega, by omega, by go_num, hs3⟩
            case measure => simp [intOf]; omega
          · have hs' : Hid (sta V st (j + 1) = (1, d)) := by
              show sta V st (j + 1) = (1, d)
              rw [hs]; simp [stp, c92, c34]
            clear hs hc
            go_wp2
            go_round
            case rel => exact ⟨j + 1, by omega, by omega, by go_num, hs'⟩
            case measure => simp [intOf]; omega
    · by_cases co : c = 123 ∨ c = 91
      · have hs' : Hid (sta V st (i + 1) = (0, d + 1)) := by
          show sta V st (i + 1) = (0, d + 1)
          rw [hs]; simp [stp, c34, co]
        clear hs hc hz
        rcases co with rfl | rfl
        all_goals
          go_wp2
          go_round
          case rel => exact ⟨i + 1, d + 1, by omega, by omega, by omega, fun h => by omega, by go_num, by go_num, hs'⟩
          case measure => simp [intOf]; omega
      · have hd1 : 1 ≤ d := by
          by_cases h : d = 0
          · have := hz h; omega
          · omega
        have c1 : c ≠ 123 := fun h => co (.inl h)
        have c2 : c ≠ 91 := fun h => co (.inr h)
        by_cases cc : c = 125 ∨ c = 93
        · by_cases hd : d = 1
          · have hs' : sta V st (i + 1) = (3, 0) := by rw [hs]; simp [stp, c34, co, cc, hd]
            have hend : Hid (i + 1 = st + V.length) := sta_done H.out.2.2 (by omega) (by omega) hs'
            subst hd
            clear hs hs' hc hz co
            rcases cc with rfl | rfl
            all_goals
              go_wp2
              go_ret
              exact ⟨ret_int (by have := hend.out; omega), rfl⟩
          · have hs' : Hid (sta V st (i + 1) = (0, d - 1)) := by
              show sta V st (i + 1) = (0, d - 1)
              rw [hs]; simp [stp, c34, co, cc, hd]; omega
            have hdd : ¬ ((d : Int) - 1 = 0) := by omega
            clear hs hc hz co
            rcases cc with rfl | rfl
            all_goals
              go_wp2
              go_round
              case rel => exact ⟨i + 1, d - 1, by omega, by omega, by omega, fun h => by omega, by go_num, by go_num, hs'⟩
              case measure => simp [intOf]; omega
        · have hs' : Hid (sta V st (i + 1) = (0, d)) := by
            show sta V st (i + 1) = (0, d)
            rw [hs]; simp [stp, c34, co, cc]; omega
          have c3 : c ≠ 125 := fun h => cc (.inl h)
          have c4 : c ≠ 93 := fun h => cc (.inr h)
          have hdz : ((d : Int) == 0) = false := by simp; omega
          clear hs hc hz co cc
          go_wp2
          go_round
          case rel => exact ⟨i + 1, d, by omega, by omega, by omega, fun h => by omega, by go_num, by go_num, hs'⟩
          case measure => simp [intOf]; omega

set_option maxRecDepth 10000 in
set_option maxHeartbeats 4000000 in
theorem endBare0 (g n cap st : Nat) (D V : List Int) (w : World) (hS : Sees w g n D) (hL : Lies D V st) (hn : n ≤ 1000000000) (hp : 0 < V.length) (hV : ∀ k, k < V.length → bare (V.getD k 0))
    (hE : st + V.length < n) (hE2 : delim (D.getD (st + V.length) 0)) :
    Calls Try.prog 22 #[.slice (some ⟨g, 0, none⟩) n cap, .int .i64 (st : Int)] w fun e w' => e = .returned (.int .i64 ((st + V.length : Nat) : Int)) ∧ w' = w := by
  have hb : Hid (∀ i, st ≤ i → i < st + V.length → bare (D.getD i 0)) := by
    intro i h0 h1
    have h2 := hL.2 (i - st) (by omega)
    rw [show st + (i - st) = i by omega] at h2
    rw [h2]
    exact hV _ (by omega)
  have H : Hid (Sees w g n D ∧ delim (D.getD (st + V.length) 0)) := ⟨hS, hE2⟩
  clear hS hL hV hE2
  go_enter Try.func22, Try.ntmps22
  go_wp2
  go_loop [1, 5] (fun vi vd => ∃ i : Nat, st ≤ i ∧ i < st + V.length ∧ vi = .int .i64 (i : Int) ∧ vd = .int .i64 0) (fun vi _ => st + V.length - (intOf vi).toNat)
  case atStart => exact ⟨st, by omega, by omega, rfl, rfl⟩
  case round =>
    obtain ⟨i, hk0, hlt, rfl, rfl⟩ := hrel
    obtain ⟨c, hc⟩ : ∃ c, c = D.getD i 0 := ⟨_, rfl⟩
    have hcell : w.cell? ⟨g, i, none⟩ = some (.int .u8 c) := by rw [hc]; exact H.out.1.2 i (by omega)
    have hcb := hb.out i hk0 hlt
    rw [← hc] at hcb
    have q1 : (c == 34) = false := by simpa using hcb.1
    have q2 : (c == 123) = false := by simpa using hcb.2.1
    have q3 : (c == 91) = false := by simpa using hcb.2.2.1
    have q4 : (c == 125) = false := by simpa using hcb.2.2.2.1
    have q5 : (c == 93) = false := by simpa using hcb.2.2.2.2.1
    have q6 : ((i : Int) + 1 == (n : Int)) = false := by simp; omega
    clear hc hcb
    obtain ⟨e, he⟩ : ∃ e, e = D.getD (i + 1) 0 := ⟨_, rfl⟩
    have hcell2 : w.cell? ⟨g, i + 1, none⟩ = some (.int .u8 e) := by rw [he]; exact H.out.1.2 (i + 1) (by omega)
    by_cases hin : i + 1 < st + V.length
    · have heb := hb.out (i + 1) (by omega) hin
      rw [← he] at heb
      have hnd : ¬ delim e := by unfold delim; unfold bare at heb; omega
      have hby : 0 ≤ e ∧ e ≤ 255 := by unfold bare at heb; omega
      clear he heb
      go_wp2_with (go_at_call 26; refine (idx_n e w hby.1 hby.2 hnd).mono ?_; rintro e1 w1 ⟨z, rfl, hz, rfl⟩)
      go_round
      case rel => exact ⟨i + 1, by omega, by omega, by go_num, rfl⟩
      case measure => simp [intOf]; omega
    · have hnd : delim e := by rw [he, show i + 1 = st + V.length by omega]; exact H.out.2
      have hby : 0 ≤ e ∧ e ≤ 255 := by unfold delim at hnd; omega
      have HN : Hid (delim e) := hnd
      clear he hnd
      go_wp2_with (go_at_call 26; refine (idx_d e w hby.1 hby.2 HN.out).mono ?_; rintro e1 w1 ⟨z, rfl, hz, rfl⟩)
      go_ret
      exact ⟨ret_int (by omega), rfl⟩
end Go.Proofs.Qxb6001622a
