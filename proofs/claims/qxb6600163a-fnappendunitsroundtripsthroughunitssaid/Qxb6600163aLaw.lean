/-
  THE WALK OF THE LAW, out of the contracts.
-/
import Derived.Test.Qxb6600163aUnits
import Derived.Laws.IdiomStrings
namespace Go.Proofs.Qxb6600163a
open Go.RowKit
set_option linter.unusedVariables false

set_option maxRecDepth 10000 in
set_option maxHeartbeats 1000000 in
theorem zzUnits0 (u : Int) (m P D : Nat) (s : ByteArray) (w : World) (hm : IsMag u m) (hs : s.data.toList = text u m P D) (hPD : P < D) (hDP : D ≤ P + 20) (hz : m / 10 ^ D = 0) (hP : P ≤ 65536) :
    Calls Try.prog 8 #[.agg #[.string { data := #[] }, .int .i32 (P : Int), .int .i64 0], .string s] w (UPost w u m) := by
  have H : Hid (IsMag u m ∧ s.data.toList = text u m P D ∧ m / 10 ^ D = 0) := ⟨hm, hs, hz⟩
  clear hm hs hz
  go_enter Try.func8, Try.ntmps8
  go_wp2_with (go_at_call 14; refine (units0 u m P D s _ H.out.1 H.out.2.1 hPD hDP H.out.2.2 hP).mono ?_; rintro e w1 ⟨hr, hb⟩; have HW : Hid (Below w.heap.size w w1) := ((Below.refl _ _).alloc (Nat.le_refl _) _).trans (hb.mono (by simp)); clear hb; rcases hr with ⟨hm1, rfl⟩ | ⟨hm1, rfl⟩)
  · go_ret2
    exact ⟨.inl ⟨hm1, rfl⟩, HW.out⟩
  · go_ret2
    exact ⟨.inr ⟨hm1, rfl⟩, HW.out⟩

def Good (w : World) (e : Ending) (w' : World) : Prop := e = .returned (.bool true) ∧ Below w.heap.size w w'

set_option maxHeartbeats 1000000 in
theorem main_out (p u : Int) (w : World) (h : p < 0 ∨ 65536 < p) : Calls Try.prog 3 #[.int .i32 p, .int .i64 u] w (Good w) := by
  by_cases hn : p < 0
  · clear h
    go_enter Try.func3, Try.ntmps3
    go_wp2_with fail
    go_ret
    exact ⟨rfl, Below.refl _ _⟩
  · have hp : 65536 < p := h.resolve_left hn
    clear h
    go_enter Try.func3, Try.ntmps3
    go_wp2_with fail
    go_ret
    exact ⟨rfl, Below.refl _ _⟩

theorem app0 (P : Nat) (hP : P ≤ 65536) (u : Int) (m : Nat) (hm : IsMag u m) (w : World) : Calls Try.prog 7 #[.agg #[.string { data := #[] }, .int .i32 (P : Int), .int .i64 0], .slice none 0 0, .int .i64 u] w (AppPost w u m P) := by
  by_cases h : P ≤ 26
  · exact app_small P h u m hm w
  · exact app_large P (by omega) hP u m hm w

set_option maxRecDepth 10000 in
set_option maxHeartbeats 2000000 in
theorem main_go (P : Nat) (hP : P ≤ 65536) (u : Int) (m : Nat) (hm : IsMag u m) (w : World) : Calls Try.prog 3 #[.int .i32 (P : Int), .int .i64 u] w (Good w) := by
  have HM : Hid (IsMag u m) := hm
  have d1 : decide ((P : Int) < 0) = false := by simp
  have d2 : decide ((65536 : Int) < (P : Int)) = false := by simp; omega
  clear hm
  go_enter Try.func3, Try.ntmps3
  go_wp2_with fail
  refine (app0 P hP u m HM.out _).mono ?_
  rintro e w2 ⟨ao, n, cap, D, rfl, hPD, hDP, hz, hO, hb⟩
  have c0 : w2.cell? ⟨w.heap.size, 0, none⟩ = some (.string { data := #[] }) := (hb.cell (by simp)).trans (by rw [World.cell?_alloc_new]; rfl)
  have c1 : w2.cell? ⟨w.heap.size, 1, none⟩ = some (.int .i32 (P : Int)) := (hb.cell (by simp)).trans (by rw [World.cell?_alloc_new]; rfl)
  have c2 : w2.cell? ⟨w.heap.size, 2, none⟩ = some (.int .i64 0) := (hb.cell (by simp)).trans (by rw [World.cell?_alloc_new]; rfl)
  have HW : Hid (Below w.heap.size w w2) := ((Below.refl _ _).alloc (Nat.le_refl _) _).trans (hb.mono (by simp))
  obtain ⟨T, hT⟩ : ∃ T, T = text u m P D := ⟨_, rfl⟩
  rw [← hT] at hO
  have hn : T.length = n := by have := hO.len; rwa [ints_length] at this
  have hn0 : 0 < n := by
    obtain ⟨c, l, e, _⟩ := txt_cons m P D hPD
    rw [← hn, hT]
    simp [text, e]
    omega
  obtain ⟨g, rfl, _, _⟩ := hO.head hn0
  have hcv : (convert 25 9 (.slice (some ⟨g, 0, none⟩) n cap)).run Try.prog w2 = .ok (.string ⟨T.toArray⟩) w2 := by
    rw [← hn]
    refine run_convert_bytes_back w2 25 9 5 ⟨g, 0, none⟩ cap T Try.underlying25 Try.underlying5 Try.underlying9 ?_
    intro j hj
    rw [Addr.add_lit, Nat.zero_add, hO.cell j (by omega)]
    simp [ints, List.getD, hj]
  have HT : Hid (T = text u m P D ∧ m / 10 ^ D = 0) := ⟨hT, hz⟩
  clear hO hb hn hT hz
  go_wp2_with fail
  refine (zzUnits0 u m P D ⟨T.toArray⟩ _ HM.out (by rw [← HT.out.1]) hPD hDP HT.out.2 hP).mono ?_
  rintro e w3 ⟨hr, hb3⟩
  have HW3 : Hid (Below w.heap.size w w3) := HW.out.trans (hb3.mono HW.out.size)
  clear hb3
  rcases hr with ⟨hm1, rfl⟩ | ⟨hm1, rfl⟩
  · have hu : (u == -9223372036854775808) = false := by
      have := HM.out
      simp
      rcases this with ⟨e, _⟩ | ⟨e, _⟩ <;> omega
    go_wp2_with fail
    go_ret
    exact ⟨rfl, HW3.out⟩
  · have hu : (u == -9223372036854775808) = true := by
      have := HM.out
      simp
      rcases this with ⟨e, _⟩ | ⟨e, _⟩ <;> omega
    go_wp2_with fail
    go_ret
    exact ⟨rfl, HW3.out⟩
end Go.Proofs.Qxb6600163a
