/-
  THE WALKS OF THE PARSER: done, peek, token.
-/
import Derived.Test.Qxb6003801aChars
import Derived.Deep.QuietTactic
import Derived.BigQuiet
import Derived.Deep.LoopGhost
import Derived.RegionTactic
import Derived.ChangeAlike
namespace Go.Proofs.Qxb6003801a
open Go.RowKit
set_option linter.unusedVariables false

/-- The parser's two cells. -/
def PS (w : World) (pb : Nat) (s : ByteArray) (i : Nat) : Prop :=
  w.cell? ⟨pb, 0, none⟩ = some (.string s) ∧ w.cell? ⟨pb, 1, none⟩ = some (.int .i64 (i : Int)) ∧ w.frozen? ⟨pb, 1, none⟩ = false

/-- Whatever w had grown from, w' has grown from too. -/
def Ext (w w' : World) : Prop := ∀ W, Grown W w → Grown W w'
theorem Ext.refl (w : World) : Ext w w := fun _ h => h
theorem Ext.trans {a b c : World} (h : Ext a b) (k : Ext b c) : Ext a c := fun W g => k W (h W g)
theorem Ext.drewN (w : World) (n : Nat) : Ext w (w.drewN n) := fun _ h => h
theorem PS.drewN {w : World} {pb : Nat} {s : ByteArray} {i : Nat} (h : PS w pb s i) (n : Nat) : PS (w.drewN n) pb s i := h

set_option maxHeartbeats 1000000 in
theorem done_no (pb : Nat) (s : ByteArray) (i : Nat) (w : World) (h : PS w pb s i) (hi : i < s.size) (hs : s.size ≤ 2000000) :
    Calls Try.prog 25 #[.pointer (some ⟨pb, 0, none⟩)] w fun e w' => e = .returned (.bool false) ∧ PS w' pb s i ∧ Ext w w' := by
  have H : Hid (PS w pb s i) := h
  obtain ⟨h1, h2, h3⟩ := h
  have hne : ((i : Int) == (s.size : Int)) = false := by simp; omega
  go_enter Try.func25, Try.ntmps25
  go_wp2
  go_quiet (fail)
  go_wp2
  go_ret
  exact ⟨rfl, H.out.drewN _, Ext.drewN _ _⟩

set_option maxHeartbeats 1000000 in
theorem done_yes (pb : Nat) (s : ByteArray) (i : Nat) (w : World) (h : PS w pb s i) (hi : i = s.size) (hs : s.size ≤ 2000000) :
    Calls Try.prog 25 #[.pointer (some ⟨pb, 0, none⟩)] w fun e w' => e = .returned (.bool true) ∧ PS w' pb s i ∧ Ext w w' := by
  have H : Hid (PS w pb s i) := h
  obtain ⟨h1, h2, h3⟩ := h
  have hne : ((i : Int) == (s.size : Int)) = true := by simp; omega
  clear hi
  go_enter Try.func25, Try.ntmps25
  go_wp2
  go_quiet (fail)
  go_wp2
  go_ret
  exact ⟨rfl, H.out.drewN _, Ext.drewN _ _⟩

set_option maxHeartbeats 1000000 in
theorem peek0 (pb : Nat) (s : ByteArray) (i : Nat) (w : World) (h : PS w pb s i) (hi : i < s.size) (hs : s.size ≤ 2000000) :
    Calls Try.prog 27 #[.pointer (some ⟨pb, 0, none⟩)] w fun e w' => e = .returned (.int .u8 ((s[i]'hi).toNat : Int)) ∧ PS w' pb s i ∧ Ext w w' := by
  have H : Hid (PS w pb s i) := h
  clear h
  go_enter Try.func27, Try.ntmps27
  go_wp2_with (go_at_call 25; refine (done_no pb s i _ H.out hi hs).mono ?_; rintro e w1 ⟨rfl, hP, hE⟩; have hc1 := hP.1; have hc2 := hP.2.1)
  go_quiet (fail)
  go_wp2
  go_ret
  exact ⟨rfl, hP.drewN _, hE.trans (Ext.drewN _ _)⟩

/-- .. where it writes into the block pb. -/
def ExtP (pb : Nat) (w w' : World) : Prop := ∀ W, Grown W w → W.heap.size ≤ pb → Grown W w'
theorem ExtP.ext {pb : Nat} {a b c : World} (h : ExtP pb a b) (k : Ext b c) : ExtP pb a c := fun W g l => k W (h W g l)
theorem ExtP.set {pb : Nat} {a b : World} (h : ExtP pb a b) (o : Nat) (v : Value) : ExtP pb a (b.setCell ⟨pb, o, none⟩ v) := fun W g l => (h W g l).setCell (by exact l) v

theorem PS.set {w : World} {pb : Nat} {s : ByteArray} {i : Nat} (h : PS w pb s i) : PS (w.setCell ⟨pb, 1, none⟩ (.int .i64 ((i : Int) + 1))) pb s (i + 1) := by
  obtain ⟨h1, h2, h3⟩ := h
  refine ⟨?_, ?_, ?_⟩
  · rw [← h1]
    exact World.cell?_setCell_other _ _ _ _ (by intro e; cases e)
  · exact World.cell?_setCell_same _ _ _ h2
  · rw [World.frozen?_setCell]; exact h3

/-- The byte at j, if there is one, may stand in a token. -/
def tokAt (s : ByteArray) (j : Nat) : Prop := ∀ h : j < s.size, tok ((s[j]'h).toNat : Int)

theorem u8_le (b : UInt8) : (b.toNat : Int) ≤ 255 := by have := b.toNat_lt; omega

/-- What token leaves. -/
def TokPost (pb : Nat) (s : ByteArray) (st : Nat) (w : World) (e : Ending) (w' : World) : Prop :=
  ∃ q : Nat, e = .returned (.string (s.extract st q)) ∧ st < q ∧ q ≤ s.size ∧ (∀ j, st < j → j < q → tokAt s j) ∧ (∀ h : q < s.size, ¬ tok ((s[q]'h).toNat : Int)) ∧ PS w' pb s q ∧ ExtP pb w w'

theorem toks_succ {s : ByteArray} {st i : Nat} (h : ∀ j, st < j → j < i → tokAt s j) (hi : i < s.size) (ht : tok ((s[i]'hi).toNat : Int)) : ∀ j, st < j → j < i + 1 → tokAt s j := by
  intro j h1 h2
  by_cases e : j = i
  · subst e; exact fun _ => ht
  · exact h j h1 (by omega)

set_option maxRecDepth 10000 in
set_option maxHeartbeats 4000000 in
theorem token0 (pb : Nat) (s : ByteArray) (st : Nat) (w : World) (h : PS w pb s st) (hst : st < s.size) (hs : s.size ≤ 2000000) :
    Calls Try.prog 23 #[.pointer (some ⟨pb, 0, none⟩)] w (TokPost pb s st w) := by
  have hP : PS (w.setCell ⟨pb, 1, none⟩ (.int .i64 ((st : Int) + 1))) pb s (st + 1) := h.set
  have hX : ExtP pb w (w.setCell ⟨pb, 1, none⟩ (.int .i64 ((st : Int) + 1))) := ExtP.set (fun W g _ => g) 1 _
  obtain ⟨h1, h2, h3⟩ := h
  go_enter Try.func23, Try.ntmps23
  go_wp2_with fail
  go_loopg [] (s.size - (st + 1)) (fun k wr => ∃ i : Nat, i + k = s.size ∧ st < i ∧ PS wr pb s i ∧ ExtP pb w wr ∧ Hid (∀ j, st < j → j < i → tokAt s j))
  case atStart => exact ⟨st + 1, by omega, by omega, hP, hX, fun j a b => by omega⟩
  case round =>
    clear hP hX
    obtain ⟨i, hik, hsi, hP, hX, hT⟩ := hrel
    have HK : Hid (i + gk = s.size) := hik
    have hc1 := hP.1
    have hc2 := hP.2.1
    have hc3 := hP.2.2
    have b1 : (0 : Int) ≤ (st : Int) := by omega
    have b2 : (st : Int) ≤ (i : Int) := by omega
    have b3 : (i : Int) ≤ (s.size : Int) := by omega
    by_cases hi : i < s.size
    · clear hik
      have HI := hi
      have hby := u8_le (s[i]'hi)
      by_cases ht : tch ((s[i]'hi).toNat : Int)
      · have HT : Hid (tch ((s[i]'hi).toNat : Int)) := ht
        clear ht
        go_wp2_with (first | (go_at_call 25; refine (done_no pb s i _ (by assumption) HI hs).mono ?_; rintro e w1 ⟨rfl, hP1, hE⟩; clear hP; have hP := hP1; clear hP1; have hX1 := hX.ext hE; clear hX hE; have hX := hX1; clear hX1; have hc1 := hP.1; have hc2 := hP.2.1; have hc3 := hP.2.2) | (go_at_call 27; refine (peek0 pb s i _ (by assumption) hi hs).mono ?_; rintro e w2 ⟨rfl, hP1, hE⟩; clear hP; have hP := hP1; clear hP1; have hX1 := hX.ext hE; clear hX hE; have hX := hX1; clear hX1; have hc1 := hP.1; have hc2 := hP.2.1; have hc3 := hP.2.2) | (go_at_call 26; refine (tch_yes _ _ (by omega) (by omega) HT.out).mono ?_; rintro e w3 ⟨rfl, rfl⟩))
        go_roundg (gk - 1)
        case measure => have := HK.out; omega
        case rel => exact ⟨i + 1, by have := HK.out; omega, by omega, hP.set, hX.set 1 _, toks_succ hT.out hi (.inl HT.out)⟩
      · have HT : Hid (¬ tch ((s[i]'hi).toNat : Int)) := ht
        clear ht
        by_cases h58 : ((s[i]'hi).toNat : Int) = 58
        · have HQ : Hid (((s[i]'hi).toNat : Int) = 58 ∨ ((s[i]'hi).toNat : Int) = 47) := .inl h58
          have q1 : (((s[i]'hi).toNat : Int) == 58) = true := by simpa using h58
          clear h58
          go_wp2_with (first | (go_at_call 25; refine (done_no pb s i _ (by assumption) HI hs).mono ?_; rintro e w1 ⟨rfl, hP1, hE⟩; clear hP; have hP := hP1; clear hP1; have hX1 := hX.ext hE; clear hX hE; have hX := hX1; clear hX1; have hc1 := hP.1; have hc2 := hP.2.1; have hc3 := hP.2.2) | (go_at_call 27; refine (peek0 pb s i _ (by assumption) hi hs).mono ?_; rintro e w2 ⟨rfl, hP1, hE⟩; clear hP; have hP := hP1; clear hP1; have hX1 := hX.ext hE; clear hX hE; have hX := hX1; clear hX1; have hc1 := hP.1; have hc2 := hP.2.1; have hc3 := hP.2.2) | (go_at_call 26; refine (tch_no _ _ (by omega) (by omega) HT.out).mono ?_; rintro e w3 ⟨rfl, rfl⟩))
          go_roundg (gk - 1)
          case measure => have := HK.out; omega
          case rel => exact ⟨i + 1, by have := HK.out; omega, by omega, hP.set, hX.set 1 _, toks_succ hT.out hi (.inr HQ.out)⟩
        · have q1 : (((s[i]'hi).toNat : Int) == 58) = false := by simpa using h58
          by_cases h47 : ((s[i]'hi).toNat : Int) = 47
          · have HQ : Hid (((s[i]'hi).toNat : Int) = 58 ∨ ((s[i]'hi).toNat : Int) = 47) := .inr h47
            have q2 : (((s[i]'hi).toNat : Int) == 47) = true := by simpa using h47
            clear h58 h47
            go_wp2_with (first | (go_at_call 25; refine (done_no pb s i _ (by assumption) HI hs).mono ?_; rintro e w1 ⟨rfl, hP1, hE⟩; clear hP; have hP := hP1; clear hP1; have hX1 := hX.ext hE; clear hX hE; have hX := hX1; clear hX1; have hc1 := hP.1; have hc2 := hP.2.1; have hc3 := hP.2.2) | (go_at_call 27; refine (peek0 pb s i _ (by assumption) hi hs).mono ?_; rintro e w2 ⟨rfl, hP1, hE⟩; clear hP; have hP := hP1; clear hP1; have hX1 := hX.ext hE; clear hX hE; have hX := hX1; clear hX1; have hc1 := hP.1; have hc2 := hP.2.1; have hc3 := hP.2.2) | (go_at_call 26; refine (tch_no _ _ (by omega) (by omega) HT.out).mono ?_; rintro e w3 ⟨rfl, rfl⟩))
            go_roundg (gk - 1)
            case measure => have := HK.out; omega
            case rel => exact ⟨i + 1, by have := HK.out; omega, by omega, hP.set, hX.set 1 _, toks_succ hT.out hi (.inr HQ.out)⟩
          · have q2 : (((s[i]'hi).toNat : Int) == 47) = false := by simpa using h47
            have HQ : Hid (¬ tok ((s[i]'hi).toNat : Int)) := by
              rintro (a | a | a)
              · exact HT.out a
              · exact h58 a
              · exact h47 a
            clear h58 h47
            go_wp2_with (first | (go_at_call 25; refine (done_no pb s i _ (by assumption) HI hs).mono ?_; rintro e w1 ⟨rfl, hP1, hE⟩; clear hP; have hP := hP1; clear hP1; have hX1 := hX.ext hE; clear hX hE; have hX := hX1; clear hX1; have hc1 := hP.1; have hc2 := hP.2.1; have hc3 := hP.2.2) | (go_at_call 27; refine (peek0 pb s i _ (by assumption) hi hs).mono ?_; rintro e w2 ⟨rfl, hP1, hE⟩; clear hP; have hP := hP1; clear hP1; have hX1 := hX.ext hE; clear hX hE; have hX := hX1; clear hX1; have hc1 := hP.1; have hc2 := hP.2.1; have hc3 := hP.2.2) | (go_at_call 26; refine (tch_no _ _ (by omega) (by omega) HT.out).mono ?_; rintro e w3 ⟨rfl, rfl⟩))
            go_quiet (fail)
            go_wp2
            go_ret
            exact ⟨i, rfl, hsi, by omega, hT.out, fun _ => HQ.out, hP.drewN _, hX.ext (Ext.drewN _ _)⟩
    · obtain rfl : i = s.size := by omega
      clear hik hi
      go_wp2_with (first | (go_at_call 25; refine (done_yes pb s s.size _ (by assumption) rfl hs).mono ?_; rintro e w1 ⟨rfl, hP1, hE⟩; clear hP; have hP := hP1; clear hP1; have hX1 := hX.ext hE; clear hX hE; have hX := hX1; clear hX1; have hc1 := hP.1; have hc2 := hP.2.1; have hc3 := hP.2.2))
      go_quiet (fail)
      go_wp2
      go_ret
      exact ⟨s.size, rfl, hsi, by omega, hT.out, fun h => by omega, hP.drewN _, hX.ext (Ext.drewN _ _)⟩
end Go.Proofs.Qxb6003801a
