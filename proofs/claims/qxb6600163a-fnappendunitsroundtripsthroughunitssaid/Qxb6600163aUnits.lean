/-
  THE WALK OF units.
-/
import Derived.Test.Qxb6600163aStr
import Derived.Test.Qxb6600163aApp
namespace Go.Proofs.Qxb6600163a
open Go.RowKit
set_option linter.unusedVariables false

theorem txt_cons (m P D : Nat) (h : P < D) : ∃ c l, txt m P D = c :: l ∧ c ≠ 45 ∧ 48 ≤ c.toNat := by
  obtain ⟨j, rfl⟩ : ∃ j, D = j + 1 := ⟨D - 1, by omega⟩
  by_cases hp : j = P ∧ 0 < P
  · obtain ⟨rfl, h0⟩ := hp
    exact ⟨_, _, txt_point m j h0, d8_ne _ _ _ (by decide), by rw [d8_toNat]; omega⟩
  · exact ⟨_, _, txt_plain m P j hp, d8_ne _ _ _ (by decide), by rw [d8_toNat]; omega⟩

theorem trimU (u : Int) (m P D : Nat) (s : ByteArray) (w : World) (hs : s.data.toList = text u m P D) (hPD : P < D) (hsz : s.size ≤ 1000000) :
    Calls Try.prog 18 #[.string s, .string { data := #[45] }] w fun e w' => ∃ t : ByteArray, e = .returned (.string t) ∧ t.data.toList = txt m P D ∧ w' = w := by
  by_cases hu : u < 0
  · exact trim_yes s _ w (by rw [hs]; simp [text, hu]) hsz
  · obtain ⟨c, l, e, hc, _⟩ := txt_cons m P D hPD
    rw [e]
    exact trim_no s c l w (by rw [hs, ← e]; simp [text, hu]) hc hsz

theorem cutU (m P D : Nat) (t : ByteArray) (w : World) (ht : t.data.toList = txt m P D) (hPD : P < D) (hsz : t.size ≤ 1000000) :
    Calls Try.prog 17 #[.string t, .string { data := #[46] }] w (CutPost w (digs m P (D - P)) (digs m 0 P)) := by
  by_cases hP : P = 0
  · subst hP
    refine scut_no t _ w ?_ (digs_ne _ _ _ (by decide) _) hsz
    rw [ht]; simp [txt]
  · refine scut_yes t _ _ w ?_ (digs_ne _ _ _ (by decide) _) ?_ hsz
    · rw [ht]; unfold txt; rw [if_neg (by omega)]
    · intro e
      have := digs_length m P (D - P)
      rw [e] at this
      simp at this
      omega

theorem at_list (a : ByteArray) (l : List UInt8) (h : a.data.toList = l) (i : Nat) (hi : i < a.size) : ((a[i]'hi).toNat : Int) = ((l.getD i 0).toNat : Int) := by
  subst h
  have h2 : i < a.data.toList.length := by rw [← Lib.size_eq]; exact hi
  rw [List.getD_eq_getElem?_getD, List.getElem?_eq_getElem h2]
  rfl

theorem ret_tup {a b : Int} {v : Value} (h : a = b) : Ending.returned (.tuple #[.int .i64 a, v]) = .returned (.tuple #[.int .i64 b, v]) := by rw [h]

/-- What units leaves. -/
def UPost (w : World) (u : Int) (m : Nat) (e : Ending) (w' : World) : Prop :=
  ((m ≤ 9223372036854775807 ∧ e = .returned (.tuple #[.int .i64 u, .bool true])) ∨ (9223372036854775807 < m ∧ e = .returned (.tuple #[.int .i64 0, .bool false]))) ∧ Below w.heap.size w w'

set_option maxRecDepth 20000 in
set_option maxHeartbeats 4000000 in
theorem units0 (u : Int) (m P D : Nat) (s : ByteArray) (w : World) (hm : IsMag u m) (hs : s.data.toList = text u m P D) (hPD : P < D) (hDP : D ≤ P + 20) (hz : m / 10 ^ D = 0) (hP : P ≤ 65536) :
    Calls Try.prog 14 #[.agg #[.string { data := #[] }, .int .i32 (P : Int), .int .i64 0], .string s] w (UPost w u m) := by
  have hsz : s.size ≤ 1000000 := by
    rw [Lib.size_eq, hs]
    have := txt_le m P D
    simp only [text, List.length_append]
    split <;> simp <;> omega
  have hs0 : 0 < s.size := by
    obtain ⟨c, l, e, _⟩ := txt_cons m P D hPD
    rw [Lib.size_eq, hs]
    simp [text, e]
    omega
  have H : Hid (IsMag u m ∧ s.data.toList = text u m P D ∧ m / 10 ^ D = 0) := ⟨hm, hs, hz⟩
  have hml := hm.le
  clear hm hs hz
  go_enter Try.func14, Try.ntmps14
  go_wp2_with (first | (go_at_call 18; refine (trimU u m P D s _ H.out.2.1 hPD hsz).mono ?_; rintro e w1 ⟨t, rfl, ht, rfl⟩; have HT : Hid (t.data.toList = txt m P D) := ht; have htz : t.size ≤ 1000000 := (by rw [Lib.size_eq, ht]; have := txt_le m P D; omega); clear ht) | (go_at_call 17; refine (cutU m P D t _ HT.out hPD htz).mono ?_; rintro e w2 ⟨a, b, f, rfl, ha, hb, hbel⟩; have HW : Hid (Below w.heap.size w w2) := ((Below.refl _ _).alloc (Nat.le_refl _) _).trans (hbel.mono (by simp)); have hk : w2.cell? ⟨w.heap.size, 1, none⟩ = some (.int .i32 (P : Int)) := (hbel.cell (by simp)).trans (by rw [World.cell?_alloc_new]; rfl); have HA : Hid (a.data.toList = digs m P (D - P)) := ha; have HB : Hid (b.data.toList = digs m 0 P) := hb; have has : a.size = D - P := (by rw [Lib.size_eq, ha, digs_length]); have hbs : b.size = P := (by rw [Lib.size_eq, hb, digs_length]); have HS : Hid (a.size = D - P ∧ b.size = P) := ⟨has, hbs⟩; have haz : a.size ≤ 1000000 := (by omega); have hbz : b.size ≤ 1000000 := (by omega); clear ha hb has hbs))
  go_loop [25, 9] (fun v25 v9 => ∃ (n q : Nat), v25 = .int .i64 (n : Int) ∧ v9 = .int .i64 (q : Int) ∧ n ≤ a.size + P ∧ Hid (q = m / 10 ^ (D - n)) ∧ q ≤ 9223372036854775807) (fun v25 _ => a.size + P - (intOf v25).toNat)
  case atStart => exact ⟨0, 0, rfl, rfl, by omega, H.out.2.2.symm, by omega⟩
  case round =>
    obtain ⟨n, q, rfl, rfl, hn, hq, hqb⟩ := hrel
    by_cases hlt : n < a.size + P
    · have hnD : n < D := by have := HS.out; omega
      have hstep := acc_succ m D n hnD
      rw [← hq.out] at hstep
      have hd := dN_lt m (D - 1 - n)
      by_cases hna : n < a.size
      · have hx : ((a[n]'hna).toNat : Int) = 48 + (dN m (D - 1 - n) : Int) := by
          rw [at_list a _ HA.out n hna, digs_get m P _ n (by have := HS.out; omega), d8_toNat]
          have e : P + (D - P - 1 - n) = D - 1 - n := by have := HS.out; omega
          rw [e]; omega
        have hx1 : 48 ≤ ((a[n]'hna).toNat : Int) := by omega
        have hx2 : ((a[n]'hna).toNat : Int) ≤ 57 := by omega
        by_cases hfit : m / 10 ^ (D - (n + 1)) ≤ 9223372036854775807
        · have hno : (q : Int) * 10 + (((a[n]'hna).toNat : Int) - 48) ≤ 9223372036854775807 := by omega
          have HQ : Hid (m / 10 ^ (D - (n + 1)) ≤ 9223372036854775807 ∧ ((m / 10 ^ (D - (n + 1)) : Nat) : Int) = (q : Int) * 10 + (((a[n]'hna).toNat : Int) - 48)) := ⟨hfit, by omega⟩
          clear hstep hx hd hfit
          go_wp2
          go_round
          case rel => exact ⟨n + 1, m / 10 ^ (D - (n + 1)), by go_num, congrArg (Value.int .i64) HQ.out.2.symm, by omega, rfl, HQ.out.1⟩
          case measure => simp [intOf]; omega
        · have hyes : 9223372036854775807 < (q : Int) * 10 + (((a[n]'hna).toNat : Int) - 48) := by omega
          have HQ : Hid (9223372036854775807 < m) := by
            have := Nat.div_le_self m (10 ^ (D - (n + 1)))
            show 9223372036854775807 < m
            omega
          clear hstep hx hd hfit
          go_wp2
          go_ret2
          exact ⟨.inr ⟨HQ.out, rfl⟩, HW.out⟩
      · obtain ⟨k, rfl⟩ : ∃ k, n = a.size + k := ⟨n - a.size, by omega⟩
        have hkb : k < b.size := by have := HS.out; omega
        have hx : ((b[k]'hkb).toNat : Int) = 48 + (dN m (D - 1 - (a.size + k)) : Int) := by
          rw [at_list b _ HB.out k hkb, digs_get m 0 _ k (by have := HS.out; omega), d8_toNat]
          have e : 0 + (P - 1 - k) = D - 1 - (a.size + k) := by have := HS.out; omega
          rw [e]; omega
        have hx1 : 48 ≤ ((b[k]'hkb).toNat : Int) := by omega
        have hx2 : ((b[k]'hkb).toNat : Int) ≤ 57 := by omega
        by_cases hfit : m / 10 ^ (D - (a.size + k + 1)) ≤ 9223372036854775807
        · have hno : (q : Int) * 10 + (((b[k]'hkb).toNat : Int) - 48) ≤ 9223372036854775807 := by omega
          have HQ : Hid (m / 10 ^ (D - (a.size + k + 1)) ≤ 9223372036854775807 ∧ ((m / 10 ^ (D - (a.size + k + 1)) : Nat) : Int) = (q : Int) * 10 + (((b[k]'hkb).toNat : Int) - 48)) := ⟨hfit, by omega⟩
          clear hstep hx hd hfit
          go_wp2
          go_round
          case rel => exact ⟨a.size + k + 1, m / 10 ^ (D - (a.size + k + 1)), by go_num, congrArg (Value.int .i64) HQ.out.2.symm, by omega, rfl, HQ.out.1⟩
          case measure => simp [intOf]; omega
        · have hyes : 9223372036854775807 < (q : Int) * 10 + (((b[k]'hkb).toNat : Int) - 48) := by omega
          have HQ : Hid (9223372036854775807 < m) := by
            have := Nat.div_le_self m (10 ^ (D - (a.size + k + 1)))
            show 9223372036854775807 < m
            omega
          clear hstep hx hd hfit
          go_wp2
          go_ret2
          exact ⟨.inr ⟨HQ.out, rfl⟩, HW.out⟩
    · have hqm : q = m := by
        have h1 := HS.out
        have h2 := hq.out
        have e : D - n = 0 := by omega
        rw [e] at h2
        simpa using h2
      have hsc : s.data.toList = text u m P D := H.out.2.1
      have hm := H.out.1
      by_cases hu : u < 0
      · have hx : ((s[0]'hs0).toNat : Int) = 45 := by
          rw [at_list s _ hsc 0 hs0]; simp [text, hu]
        have hx' : (((s[0]'hs0).toNat : Int) == 45) = true := by simpa using hx
        have HU : Hid (-(q : Int) = u) := by
          show -(q : Int) = u
          rcases hm with ⟨e, _⟩ | ⟨e, _⟩ <;> omega
        have HM : Hid (m ≤ 9223372036854775807) := (show m ≤ 9223372036854775807 by omega)
        clear hx hsc hm hqm
        go_wp2
        go_ret2
        exact ⟨.inl ⟨HM.out, ret_tup HU.out⟩, HW.out⟩
      · have hx : 48 ≤ ((s[0]'hs0).toNat : Int) := by
          obtain ⟨c, l, e, _, hc⟩ := txt_cons m P D hPD
          rw [at_list s _ hsc 0 hs0]
          simp [text, hu, e]
          omega
        have hx' : (((s[0]'hs0).toNat : Int) == 45) = false := by simp; omega
        have HU : Hid ((q : Int) = u) := by
          show (q : Int) = u
          rcases hm with ⟨e, _⟩ | ⟨e, _⟩ <;> omega
        have HM : Hid (m ≤ 9223372036854775807) := (show m ≤ 9223372036854775807 by omega)
        clear hx hsc hm hqm
        go_wp2
        go_ret2
        exact ⟨.inl ⟨HM.out, ret_tup HU.out⟩, HW.out⟩
end Go.Proofs.Qxb6600163a
