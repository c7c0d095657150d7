/-
  THE WALK OF skipValue.
-/
import Derived.Test.Qxb6001551aSkip
namespace Go.Proofs.Qxb6001551a
open Go.RowKit
set_option linter.unusedVariables false

theorem idx_d (c : Int) (w : World) (h0 : 0 ≤ c) (h1 : c ≤ 255) (h : delim c) :
    Calls Try.prog 28 #[.string { data := #[44, 125, 93, 32, 9, 10, 13] }, .int .u8 c] w fun e w' => ∃ z : Int, e = .returned (.int .i64 z) ∧ 0 ≤ z ∧ w' = w :=
  (idx0 _ c w).mono fun e w' he => ⟨_, he.1, idx_yes c h0 h1 h, he.2⟩
theorem idx_n (c : Int) (w : World) (h0 : 0 ≤ c) (h1 : c ≤ 255) (h : ¬ delim c) :
    Calls Try.prog 28 #[.string { data := #[44, 125, 93, 32, 9, 10, 13] }, .int .u8 c] w fun e w' => ∃ z : Int, e = .returned (.int .i64 z) ∧ z < 0 ∧ w' = w :=
  (idx0 _ c w).mono fun e w' he => ⟨_, he.1, idx_no c h0 h1 h, he.2⟩

theorem first_byte {V : List Int} (hV : rd (0, 0) V = (3, 0)) : 0 < V.length ∧ (V.getD 0 0 = 34 ∨ V.getD 0 0 = 123 ∨ V.getD 0 0 = 91) := by
  cases V with
  | nil => simp [rd] at hV
  | cons c V =>
    refine ⟨by simp, ?_⟩
    rw [rd_cons] at hV
    simp only [List.getD_cons_zero]
    by_cases h1 : c = 34
    · exact .inl h1
    · by_cases h2 : c = 123 ∨ c = 91
      · rcases h2 with h2 | h2
        · exact .inr (.inl h2)
        · exact .inr (.inr h2)
      · exfalso
        have e : stp (0, 0) c = (4, 0) := by simp [stp, h1, h2]
        rw [e] at hV
        by_cases hn : V = []
        · subst hn; simp [rd] at hV
        · rw [rd_dead V (4, 0) (.inr rfl) hn] at hV; simp at hV

theorem sta_done {V : List Int} {st i : Nat} (hV : rd (0, 0) V = (3, 0)) (h0 : st ≤ i) (h1 : i ≤ st + V.length) (h : sta V st i = (3, 0)) : i = st + V.length := by
  have := done_at V hV (i - st) (by omega) h
  omega

theorem sta_start (V : List Int) (st : Nat) : sta V st st = (0, 0) := by simp [sta, at_zero]

theorem ret_int {k : IntKind} {a b : Int} (h : a = b) : Ending.returned (.int k a) = .returned (.int k b) := by rw [h]

set_option maxHeartbeats 2000000 in
theorem skipVal0 (g n cap st : Nat) (D V : List Int) (w : World) (hS : Sees w g n D) (hL : Lies D V st) (hn : n ≤ 1000000000) (hV : rd (0, 0) V = (3, 0)) :
    Calls Try.prog 21 #[.slice (some ⟨g, 0, none⟩) n cap, .int .i64 (st : Int)] w fun e w' => e = .returned (.int .i64 ((st + V.length : Nat) : Int)) ∧ w' = w := by
  obtain ⟨hp, hf⟩ := first_byte hV
  have hlen : st + V.length ≤ n := by have := hL.1; have := hS.1; omega
  have hf0 : D.getD st 0 = 34 ∨ D.getD st 0 = 123 ∨ D.getD st 0 = 91 := by
    have := hL.2 0 hp
    simp only [Nat.add_zero] at this
    rw [this]; exact hf
  have H : Hid (Sees w g n D ∧ Lies D V st ∧ rd (0, 0) V = (3, 0)) := ⟨hS, hL, hV⟩
  have hcell0 : w.cell? ⟨g, st, none⟩ = some (.int .u8 (D.getD st 0)) := hS.2 st (by omega)
  clear hS hL hV hf
  by_cases c34 : D.getD st 0 = 34
  · have H34 : Hid (D.getD st 0 = 34) := c34
    rw [c34] at hcell0
    clear c34 hf0
    go_enter Try.func21, Try.ntmps21
    go_wp2_with (go_at_call 20; refine (skipStr0 g n cap st st 0 D V w H.out.1 H.out.2.1 hn H.out.2.2 (Nat.le_refl _) (by omega) (sta_start V st) H34.out).mono ?_; rintro e w' ⟨i1, rfl, hi0, hi1, hi2, rfl⟩)
    go_ret
    have := sta_done H.out.2.2 (by omega) hi1 (by rw [hi2]; rfl)
    subst this
    exact ⟨rfl, rfl⟩
  · have HF : Hid (D.getD st 0 = 123 ∨ D.getD st 0 = 91) := by
      rcases hf0 with h | h
      · exact absurd h c34
      · exact h
    have hcase : ∃ q : Int, (q = 123 ∨ q = 91) ∧ w.cell? ⟨g, st, none⟩ = some (.int .u8 q) := ⟨_, HF.out, hcell0⟩
    clear hcell0 c34 hf0
    obtain ⟨q, hq, hcell0⟩ := hcase
    rcases hq with rfl | rfl
    all_goals
      go_enter Try.func21, Try.ntmps21
      go_wp2
      go_loop [1, 5] (fun vi vd => ∃ i d : Nat, st ≤ i ∧ i ≤ st + V.length ∧ d ≤ i ∧ Hid (d = 0 → i = st) ∧ vi = .int .i64 (i : Int) ∧ vd = .int .i64 (d : Int) ∧ Hid (sta V st i = (0, d))) (fun vi _ => st + V.length - (intOf vi).toNat)
      case atStart => exact ⟨st, 0, by omega, by omega, by omega, fun _ => rfl, rfl, rfl, sta_start V st⟩
      case round =>
        obtain ⟨i, d, hk0, hk1, hdi, hd0, rfl, rfl, hat⟩ := hrel
        have hlt : i < st + V.length := sta_lt H.out.2.2 hk0 hk1 (by rw [hat.out]; simp)
        obtain ⟨c, hc⟩ : ∃ c, c = D.getD i 0 := ⟨_, rfl⟩
        have hcell : w.cell? ⟨g, i, none⟩ = some (.int .u8 c) := by rw [hc]; exact H.out.1.2 i (by omega)
        have hs := sta_succ H.out.2.1 hk0 hlt hc
        rw [hat.out] at hs
        have hz : d = 0 → c = 123 ∨ c = 91 := fun h => by rw [hc, hd0.out h]; exact HF.out
        by_cases c34 : c = 34
        · have hd1 : 1 ≤ d := by
            by_cases h : d = 0
            · have := hz h; omega
            · omega
          have HC : Hid (D.getD i 0 = 34) := by show D.getD i 0 = 34; rw [← hc]; exact c34
          subst c34
          clear hs hc hz
          go_wp2_with (go_at_call 20; refine (skipStr0 g n cap st i d D V w H.out.1 H.out.2.1 hn H.out.2.2 hk0 hlt hat.out HC.out).mono ?_; rintro e w' ⟨i1, rfl, hi0, hi1, hi2, rfl⟩; have hi3 : Hid (sta V st i1 = (0, d)) := (by show sta V st i1 = (0, d); rw [hi2]; simp [stand]; omega); clear hi2)
          go_round
          case rel => exact ⟨i1, d, by omega, by omega, by omega, fun h => by omega, rfl, rfl, hi3⟩
          case measure => simp [intOf]; omega
        · by_cases co : c = 123 ∨ c = 91
          · have hs' : Hid (sta V st (i + 1) = (0, d + 1)) := by
              show sta V st (i + 1) = (0, d + 1)
              rw [hs]; simp [stp, c34, co]
            clear hs hc hz
            rcases co with rfl | rfl
            all_goals
              go_wp2
              go_round
              case rel => exact ⟨i + 1, d + 1, by omega, by omega, by omega, fun h => by omega, by go_num, by go_num, hs'⟩
              case measure => simp [intOf]; omega
          · have hd1 : 1 ≤ d := by
              by_cases h : d = 0
              · exact absurd (hz h) co
              · omega
            have c1 : c ≠ 123 := fun h => co (.inl h)
            have c2 : c ≠ 91 := fun h => co (.inr h)
            by_cases cc : c = 125 ∨ c = 93
            · by_cases hd : d = 1
              · have hs' : sta V st (i + 1) = (3, 0) := by rw [hs]; simp [stp, c34, co, cc, hd]
                have hend : Hid (i + 1 = st + V.length) := sta_done H.out.2.2 (by omega) (by omega) hs'
                subst hd
                clear hs hs' hc hz co
                rcases cc with rfl | rfl
                all_goals
                  go_wp2
                  go_ret
                  exact ⟨ret_int (by have := hend.out; omega), rfl⟩
              · have hs' : Hid (sta V st (i + 1) = (0, d - 1)) := by
                  show sta V st (i + 1) = (0, d - 1)
                  rw [hs]; simp [stp, c34, co, cc, hd]; omega
                have hdd : ¬ ((d : Int) - 1 = 0) := by omega
                clear hs hc hz co
                rcases cc with rfl | rfl
                all_goals
                  go_wp2
                  go_round
                  case rel => exact ⟨i + 1, d - 1, by omega, by omega, by omega, fun h => by omega, by go_num, by go_num, hs'⟩
                  case measure => simp [intOf]; omega
            · have hs' : Hid (sta V st (i + 1) = (0, d)) := by
                show sta V st (i + 1) = (0, d)
                rw [hs]; simp [stp, c34, co, cc]; omega
              have c3 : c ≠ 125 := fun h => cc (.inl h)
              have c4 : c ≠ 93 := fun h => cc (.inr h)
              clear hs hc hz co cc
              go_wp2
              go_round
              case rel => exact ⟨i + 1, d, by omega, by omega, by omega, fun h => by omega, by go_num, by go_num, hs'⟩
              case measure => simp [intOf]; omega

set_option maxHeartbeats 2000000 in
theorem skipBare0 (g n cap st : Nat) (D V : List Int) (w : World) (hS : Sees w g n D) (hL : Lies D V st) (hn : n ≤ 1000000000) (hp : 0 < V.length) (hV : ∀ k, k < V.length → bare (V.getD k 0))
    (hE : st + V.length = n ∨ (st + V.length < n ∧ delim (D.getD (st + V.length) 0))) :
    Calls Try.prog 21 #[.slice (some ⟨g, 0, none⟩) n cap, .int .i64 (st : Int)] w fun e w' => e = .returned (.int .i64 ((st + V.length : Nat) : Int)) ∧ w' = w := by
  have hlen : st + V.length ≤ n := by have := hL.1; have := hS.1; omega
  have hb : Hid (∀ i, st ≤ i → i < st + V.length → bare (D.getD i 0)) := by
    intro i h0 h1
    have h2 := hL.2 (i - st) (by omega)
    rw [show st + (i - st) = i by omega] at h2
    rw [h2]
    exact hV _ (by omega)
  have H : Hid (Sees w g n D ∧ (st + V.length = n ∨ (st + V.length < n ∧ delim (D.getD (st + V.length) 0)))) := ⟨hS, hE⟩
  have hcase : ∃ q : Int, bare q ∧ w.cell? ⟨g, st, none⟩ = some (.int .u8 q) := ⟨_, hb.out st (Nat.le_refl _) (by omega), hS.2 st (by omega)⟩
  clear hS hL hV hE
  obtain ⟨q, hq, hcell0⟩ := hcase
  have hq1 : (q == 34) = false := by simpa using hq.1
  have hq2 : (q == 123) = false := by simpa using hq.2.1
  have hq3 : (q == 91) = false := by simpa using hq.2.2.1
  clear hq
  go_enter Try.func21, Try.ntmps21
  go_wp2
  go_loop [1] (fun vi => ∃ i : Nat, st ≤ i ∧ i ≤ st + V.length ∧ vi = .int .i64 (i : Int)) (fun vi => st + V.length - (intOf vi).toNat)
  case atStart => exact ⟨st, by omega, by omega, rfl⟩
  case round =>
    obtain ⟨i, hk0, hk1, rfl⟩ := hrel
    by_cases hlt : i < st + V.length
    · obtain ⟨c, hc⟩ : ∃ c, c = D.getD i 0 := ⟨_, rfl⟩
      have hcell : w.cell? ⟨g, i, none⟩ = some (.int .u8 c) := by rw [hc]; exact H.out.1.2 i (by omega)
      have hcb := hb.out i hk0 hlt
      rw [← hc] at hcb
      have hnd : ¬ delim c := by unfold delim; unfold bare at hcb; omega
      have hby : 0 ≤ c ∧ c ≤ 255 := by unfold bare at hcb; omega
      clear hc hcb
      go_wp2_with (go_at_call 28; refine (idx_n c w hby.1 hby.2 hnd).mono ?_; rintro e w' ⟨z, rfl, hz, rfl⟩)
      go_round
      case rel => exact ⟨i + 1, by omega, by omega, by go_num⟩
      case measure => simp [intOf]; omega
    · by_cases hin : i < n
      · obtain ⟨c, hc⟩ : ∃ c, c = D.getD i 0 := ⟨_, rfl⟩
        have hcell : w.cell? ⟨g, i, none⟩ = some (.int .u8 c) := by rw [hc]; exact H.out.1.2 i (by omega)
        have hnd : delim c := by
          rcases H.out.2 with h | h
          · omega
          · rw [hc, show i = st + V.length by omega]; exact h.2
        have hby : 0 ≤ c ∧ c ≤ 255 := by unfold delim at hnd; omega
        have HN : Hid (delim c) := hnd
        clear hc hnd
        go_wp2_with (go_at_call 28; refine (idx_d c w hby.1 hby.2 HN.out).mono ?_; rintro e w' ⟨z, rfl, hz, rfl⟩)
        go_ret
        exact ⟨ret_int (by omega), rfl⟩
      · go_wp2_with fail
        go_ret
        exact ⟨ret_int (by omega), rfl⟩

/-- ZZSkipValue: at a value that lies there, followed by nothing or by a delimiter. -/
def Val (V : List Int) : Prop := rd (0, 0) V = (3, 0) ∨ (V ≠ [] ∧ ∀ y ∈ V, bare y)

theorem skip21 (g n cap st : Nat) (D V : List Int) (w : World) (hS : Sees w g n D) (hL : Lies D V st) (hn : n ≤ 1000000000) (hV : Val V)
    (hE : st + V.length = n ∨ (st + V.length < n ∧ delim (D.getD (st + V.length) 0))) :
    Calls Try.prog 21 #[.slice (some ⟨g, 0, none⟩) n cap, .int .i64 (st : Int)] w fun e w' => e = .returned (.int .i64 ((st + V.length : Nat) : Int)) ∧ w' = w := by
  rcases hV with hV | ⟨h0, hV⟩
  · exact skipVal0 g n cap st D V w hS hL hn hV
  · refine skipBare0 g n cap st D V w hS hL hn (List.length_pos_iff.2 h0) ?_ hE
    intro k hk
    apply hV
    simp [List.getD, hk]

theorem zzSkip0 (g n cap st : Nat) (D V : List Int) (w : World) (hS : Sees w g n D) (hL : Lies D V st) (hn : n ≤ 1000000000) (hV : Val V)
    (hE : st + V.length = n ∨ (st + V.length < n ∧ delim (D.getD (st + V.length) 0))) :
    Calls Try.prog 10 #[.slice (some ⟨g, 0, none⟩) n cap, .int .i64 (st : Int)] w fun e w' => e = .returned (.int .i64 ((st + V.length : Nat) : Int)) ∧ w' = w := by
  have H : Hid (Sees w g n D ∧ Lies D V st ∧ Val V ∧ (st + V.length = n ∨ (st + V.length < n ∧ delim (D.getD (st + V.length) 0)))) := ⟨hS, hL, hV, hE⟩
  clear hS hL hV hE
  go_enter Try.func10, Try.ntmps10
  go_wp2_with (go_at_call 21; refine (skip21 g n cap st D V w H.out.1 H.out.2.1 hn H.out.2.2.1 H.out.2.2.2).mono ?_; rintro e w' ⟨rfl, rfl⟩)
  go_ret
  exact ⟨rfl, rfl⟩
end Go.Proofs.Qxb6001551a
