/-
  THE WALKS OF strings.TrimPrefix at "-" and strings.Cut at ".".
-/
import Derived.Test.Qxb6600163aRows
import Derived.WalkKit
import Derived.ProofKit
import Derived.Below
import Derived.Lib.Bytealg
import Derived.Lib.Strings
import Derived.Deep.QuietTactic
import Derived.BigQuiet
namespace Go.Proofs.Qxb6600163a
open Go.RowKit
set_option linter.unusedVariables false

set_option maxHeartbeats 400000 in
theorem idx1 (s : ByteArray) (c : Int) (w : World) :
    Calls Try.prog 23 #[.string s, .int .u8 c] w fun e w' => e = .returned (.int .i64 (Lib.indexByte s.data.toList c.toNat.toUInt8)) ∧ w' = w := by
  go_enter Try.func23, Try.ntmps23
  go_wp2
  rw [run_callFunc_extern Try.func27 (by kernel_rfl) (by kernel_rfl) (by kernel_rfl) (e := Extern.BytealgIndexByte.indexByte) (by kernel_rfl), Lib.run_indexByteString]
  simp only [Result.andThen]
  rw [Oper.upon_value]
  go_wp2
  go_ret
  exact ⟨rfl, rfl⟩

theorem ib_here (c : UInt8) : ∀ (W F : List UInt8), c ∉ W → Lib.indexByte (W ++ c :: F) c = (W.length : Int)
  | [], F, _ => by simp [Lib.indexByte]
  | b :: W, F, h => by
    simp only [List.mem_cons, not_or] at h
    have hb : (b == c) = false := by
      simp
      exact fun e => h.1 e.symm
    have ih := ib_here c W F h.2
    simp only [List.cons_append, Lib.indexByte, hb, ih, List.length_cons]
    have : ((W.length : Int) == -1) = false := by simp
    simp [this]

theorem ib_none (c : UInt8) : ∀ (W : List UInt8), c ∉ W → Lib.indexByte W c = -1
  | [], _ => by simp [Lib.indexByte]
  | b :: W, h => by
    simp only [List.mem_cons, not_or] at h
    have hb : (b == c) = false := by
      simp
      exact fun e => h.1 e.symm
    have ih := ib_none c W h.2
    simp [Lib.indexByte, hb, ih]

set_option maxRecDepth 10000 in
set_option maxHeartbeats 1000000 in
theorem index0 (s : ByteArray) (w : World) (h : s.toList ≠ [46]) :
    Calls Try.prog 21 #[.string s, .string { data := #[46] }] w fun e w' => e = .returned (.int .i64 (Lib.indexByte s.data.toList 46)) ∧ w' = w := by
  have h2 : ([46] == s.toList) = false := by simp; exact fun e => h e.symm
  go_enter Try.func21, Try.ntmps21
  go_wp2_with (go_at_call 23; refine (idx1 _ _ _).mono ?_; rintro e w' ⟨rfl, rfl⟩)
  go_ret
  exact ⟨rfl, rfl⟩

theorem ext0 (s : ByteArray) : (s.extract 0 1).toList = s.data.toList.take 1 := by
  rw [Lib.extract_toList]; simp

set_option maxRecDepth 10000 in
set_option maxHeartbeats 1000000 in
theorem has_yes (s : ByteArray) (w : World) (h : 0 < s.size) (hs : s.size ≤ 1000000) (hb : ((s.extract 0 1).toList == [45]) = true) :
    Calls Try.prog 22 #[.string s, .string { data := #[45] }] w fun e w' => e = .returned (.bool true) ∧ w' = w := by
  go_enter Try.func22, Try.ntmps22
  go_wp2
  go_ret
  exact ⟨rfl, rfl⟩

set_option maxRecDepth 10000 in
set_option maxHeartbeats 1000000 in
theorem has_no (s : ByteArray) (w : World) (h : 0 < s.size) (hs : s.size ≤ 1000000) (hb : ((s.extract 0 1).toList == [45]) = false) :
    Calls Try.prog 22 #[.string s, .string { data := #[45] }] w fun e w' => e = .returned (.bool false) ∧ w' = w := by
  go_enter Try.func22, Try.ntmps22
  go_wp2
  go_ret
  exact ⟨rfl, rfl⟩

theorem size_pos {s : ByteArray} {c : UInt8} {l : List UInt8} (h : s.data.toList = c :: l) : 0 < s.size := by
  rw [Lib.size_eq, h]; simp

set_option maxHeartbeats 1000000 in
theorem trim_yes (s : ByteArray) (l : List UInt8) (w : World) (h : s.data.toList = 45 :: l) (hs : s.size ≤ 1000000) :
    Calls Try.prog 18 #[.string s, .string { data := #[45] }] w fun e w' => ∃ t : ByteArray, e = .returned (.string t) ∧ t.data.toList = l ∧ w' = w := by
  have hp := size_pos h
  have H : Hid (((s.extract 0 1).toList == [45]) = true) := by
    show ((s.extract 0 1).toList == [45]) = true
    rw [ext0, h]; rfl
  have HL : Hid ((s.extract 1 s.size).data.toList = l) := by
    show (s.extract 1 s.size).data.toList = l
    rw [Lib.extract_data, Lib.size_eq, h]; simp
  clear h
  have h20 : Calls Try.prog 20 #[.string s, .string { data := #[45] }] w fun e w' => ∃ t : ByteArray, e = .returned (.string t) ∧ t.data.toList = l ∧ w' = w := by
    go_enter Try.func20, Try.ntmps20
    go_wp2_with (go_at_call 22; refine (has_yes s w hp hs H.out).mono ?_; rintro e w' ⟨rfl, rfl⟩)
    go_ret
    exact ⟨_, rfl, HL.out, rfl⟩
  go_enter Try.func18, Try.ntmps18
  go_wp2_with (go_at_call 20; refine Calls.mono h20 ?_; rintro e w' ⟨t, rfl, ht, rfl⟩; have HT : Hid (t.data.toList = l) := ht; clear ht)
  go_ret
  exact ⟨t, rfl, HT.out, rfl⟩

set_option maxHeartbeats 1000000 in
theorem trim_no (s : ByteArray) (c : UInt8) (l : List UInt8) (w : World) (h : s.data.toList = c :: l) (hc : c ≠ 45) (hs : s.size ≤ 1000000) :
    Calls Try.prog 18 #[.string s, .string { data := #[45] }] w fun e w' => ∃ t : ByteArray, e = .returned (.string t) ∧ t.data.toList = c :: l ∧ w' = w := by
  have hp := size_pos h
  have H : Hid (((s.extract 0 1).toList == [45]) = false) := by
    show ((s.extract 0 1).toList == [45]) = false
    rw [ext0, h]; simp [hc]
  have HL : Hid (s.data.toList = c :: l) := h
  clear h
  have h20 : Calls Try.prog 20 #[.string s, .string { data := #[45] }] w fun e w' => ∃ t : ByteArray, e = .returned (.string t) ∧ t.data.toList = c :: l ∧ w' = w := by
    go_enter Try.func20, Try.ntmps20
    go_wp2_with (go_at_call 22; refine (has_no s w hp hs H.out).mono ?_; rintro e w' ⟨rfl, rfl⟩)
    go_ret
    exact ⟨_, rfl, HL.out, rfl⟩
  go_enter Try.func18, Try.ntmps18
  go_wp2_with (go_at_call 20; refine Calls.mono h20 ?_; rintro e w' ⟨t, rfl, ht, rfl⟩; have HT : Hid (t.data.toList = c :: l) := ht; clear ht)
  go_ret
  exact ⟨t, rfl, HT.out, rfl⟩

/-- What Cut leaves. -/
def CutPost (w : World) (W F : List UInt8) (e : Ending) (w' : World) : Prop :=
  ∃ (a b : ByteArray) (f : Bool), e = .returned (.tuple #[.string a, .string b, .bool f]) ∧ a.data.toList = W ∧ b.data.toList = F ∧ Below w.heap.size w w'

set_option maxHeartbeats 1000000 in
theorem cut_yes (s : ByteArray) (W F : List UInt8) (w : World) (h : s.data.toList = W ++ 46 :: F) (hW : 46 ∉ W) (h0 : W ≠ []) (hs : s.size ≤ 1000000) :
    Calls Try.prog 19 #[.string s, .string { data := #[46] }] w (CutPost w W F) := by
  have hne : s.toList ≠ [46] := by
    rw [Lib.toList_data, h]
    intro e
    cases W with
    | nil => exact h0 rfl
    | cons b W => simp at e
  have hi := ib_here 46 W F hW
  rw [← h] at hi
  have hsz : W.length + 1 + F.length = s.size := by rw [Lib.size_eq, h]; simp; omega
  have HA : Hid ((s.extract 0 W.length).data.toList = W) := by
    show (s.extract 0 W.length).data.toList = W
    rw [Lib.extract_data, h]; simp
  have HB : Hid ((s.extract (W.length + 1) s.size).data.toList = F) := by
    show (s.extract (W.length + 1) s.size).data.toList = F
    rw [Lib.extract_data, Lib.size_eq, h]
    simp
    exact List.take_of_length_le (by omega)
  have HI : Hid (Lib.indexByte s.data.toList 46 = (W.length : Int)) := hi
  have HN : Hid (s.toList ≠ [46]) := hne
  have b1 : (0 : Int) ≤ (W.length : Int) := by omega
  have b2 : (W.length : Int) ≤ (s.size : Int) := by omega
  have b3 : (0 : Int) ≤ (W.length : Int) + 1 := by omega
  have b4 : (W.length : Int) + 1 ≤ (s.size : Int) := by omega
  clear h hi hne hsz
  go_enter Try.func19, Try.ntmps19
  go_wp2_with (go_at_call 21; refine (index0 s w HN.out).mono ?_; rw [HI.out]; rintro e w' ⟨rfl, rfl⟩)
  go_quiet (fail)
  go_wp2
  go_ret3
  exact ⟨_, _, true, rfl, HA.out, HB.out, ⟨rfl, rfl, rfl, Nat.le_refl _, fun _ _ => rfl⟩⟩

set_option maxHeartbeats 1000000 in
theorem cut_no (s : ByteArray) (W : List UInt8) (w : World) (h : s.data.toList = W) (hW : 46 ∉ W) (hs : s.size ≤ 1000000) :
    Calls Try.prog 19 #[.string s, .string { data := #[46] }] w (CutPost w W []) := by
  have HN : Hid (s.toList ≠ [46]) := by
    show s.toList ≠ [46]
    rw [Lib.toList_data, h]
    intro e
    rw [e] at hW
    simp at hW
  have HI : Hid (Lib.indexByte s.data.toList 46 = -1) := by
    show Lib.indexByte s.data.toList 46 = -1
    rw [h]; exact ib_none 46 W hW
  have HA : Hid (s.data.toList = W) := h
  clear h
  go_enter Try.func19, Try.ntmps19
  go_wp2_with (go_at_call 21; refine (index0 s w HN.out).mono ?_; rw [HI.out]; rintro e w' ⟨rfl, rfl⟩)
  go_ret3
  exact ⟨_, _, false, rfl, HA.out, rfl, Below.refl _ _⟩

set_option maxHeartbeats 1000000 in
theorem scut_yes (s : ByteArray) (W F : List UInt8) (w : World) (h : s.data.toList = W ++ 46 :: F) (hW : 46 ∉ W) (h0 : W ≠ []) (hs : s.size ≤ 1000000) :
    Calls Try.prog 17 #[.string s, .string { data := #[46] }] w (CutPost w W F) := by
  have H : Hid (s.data.toList = W ++ 46 :: F ∧ 46 ∉ W ∧ W ≠ []) := ⟨h, hW, h0⟩
  clear h hW h0
  go_enter Try.func17, Try.ntmps17
  go_wp2_with (go_at_call 19; refine (cut_yes s W F w H.out.1 H.out.2.1 H.out.2.2 hs).mono ?_; rintro e w' ⟨a, b, f, rfl, ha, hb, hbel⟩; have HP : Hid (a.data.toList = W ∧ b.data.toList = F) := ⟨ha, hb⟩; clear ha hb)
  go_ret3
  exact ⟨a, b, f, rfl, HP.out.1, HP.out.2, hbel⟩

set_option maxHeartbeats 1000000 in
theorem scut_no (s : ByteArray) (W : List UInt8) (w : World) (h : s.data.toList = W) (hW : 46 ∉ W) (hs : s.size ≤ 1000000) :
    Calls Try.prog 17 #[.string s, .string { data := #[46] }] w (CutPost w W []) := by
  have H : Hid (s.data.toList = W ∧ 46 ∉ W) := ⟨h, hW⟩
  clear h hW
  go_enter Try.func17, Try.ntmps17
  go_wp2_with (go_at_call 19; refine (cut_no s W w H.out.1 H.out.2 hs).mono ?_; rintro e w' ⟨a, b, f, rfl, ha, hb, hbel⟩; have HP : Hid (a.data.toList = W ∧ b.data.toList = []) := ⟨ha, hb⟩; clear ha hb)
  go_ret3
  exact ⟨a, b, f, rfl, HP.out.1, HP.out.2, hbel⟩
end Go.Proofs.Qxb6600163a
