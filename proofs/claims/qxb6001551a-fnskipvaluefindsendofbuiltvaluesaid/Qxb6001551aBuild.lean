/-
  THE WALK OF zzBuild.
-/
import Derived.Test.Qxb6001551aInv
import Derived.Test.Qxb6001551aVal
namespace Go.Proofs.Qxb6001551a
open Go.RowKit
set_option linter.unusedVariables false

/-- A slice of bytes that came in. -/
def Row (w : World) (a : Option Addr) (len cap : Nat) (zs : List Int) : Prop :=
  (a = none ∧ len = 0 ∧ cap = 0 ∧ zs = []) ∨
  ∃ x, a = some x ∧ len ≤ cap ∧ cap ≤ maxLen ∧ zs.length = cap ∧ (∀ i, i < zs.length → w.cell? (x.add i) = some (.int .u8 (zs.getD i 0))) ∧ ∀ n ∈ zs, (Lit.int .u8 n).wf = true

/-- What zzBuild leaves. -/
def Built (w : World) (e : Ending) (w' : World) : Prop :=
  ∃ ao n c V k, e = .returned (.tuple #[.slice ao n c, .int .i64 k]) ∧ Val V ∧ n ≤ 1000000 ∧ Own w' w.heap.size 5 .u8 ao n c V ∧ Below w.heap.size w w'

theorem own_below {w w' : World} {ao ao' : Option Addr} {n cap : Nat} {xs : List Int} (h : Own w w.heap.size 5 .u8 ao n cap xs) (f : Eff w w' ao ao') : Below w.heap.size w w' := h.below f (Nat.le_refl _)

set_option maxRecDepth 10000 in
set_option maxHeartbeats 1000000 in
theorem build_none (a0 : Option Addr) (cap : Nat) (w : World) : Calls Try.prog 14 #[.slice a0 0 cap] w (Built w) := by
  go_enter Try.func14, Try.ntmps14
  go_wp2_with (first | (at_builtin; refine wpB rfl (.tmp 16) (.tmp 17) rfl w.heap.size _ _ _ _ rfl (Own.empty w w.heap.size 5 .u8) [_] 1 1 rfl rfl (by omega) (Nat.le_refl _) ?_; intro a1 c1 w1 h1 f1))
  go_ret2
  exact ⟨a1, 1, c1, [48], 4, rfl, .inr ⟨by simp, by simp [bare]⟩, by omega, h1, own_below (Own.empty w w.heap.size 5 .u8) f1⟩

set_option maxHeartbeats 1000000 in
theorem build_scal (b off len cap : Nat) (q : Int) (w : World) (hl : 0 < len) (hq0 : 0 ≤ q) (hq1 : q ≤ 255) (hc : w.cell? ⟨b, off, none⟩ = some (.int .u8 q)) (h3 : 3 ≤ q % 8) :
    Calls Try.prog 14 #[.slice (some ⟨b, off, none⟩) len cap] w (Built w) := by
  have hl' : ((len : Int) == 0) = false := by simp; omega
  go_enter Try.func14, Try.ntmps14
  go_wp2_with (go_at_call 23; refine (scal0 none 0 0 [] w.heap.size w (q % 8) q hq0 hq1 (Own.empty w w.heap.size 5 .u8) (by omega) (Nat.le_refl _)).mono ?_; rintro e w' ⟨a1, n1, c1, ys, rfl, hn, hs, h1, f1⟩)
  go_ret2
  exact ⟨a1, n1, c1, ys, _, rfl, hs.2, by omega, h1, own_below (Own.empty w w.heap.size 5 .u8) f1⟩

set_option maxHeartbeats 1000000 in
theorem build_two (b off len cap : Nat) (q : Int) (w : World) (hl : 0 < len) (hq0 : 0 ≤ q) (hq1 : q ≤ 255) (hc : w.cell? ⟨b, off, none⟩ = some (.int .u8 q)) (h3 : q % 8 = 2) :
    Calls Try.prog 14 #[.slice (some ⟨b, off, none⟩) len cap] w (Built w) := by
  have hl' : ((len : Int) == 0) = false := by simp; omega
  go_enter Try.func14, Try.ntmps14
  go_wp2_with (first | (at_builtin; refine wpB rfl (.tmp 36) (.tmp 37) rfl w.heap.size _ _ _ _ rfl (Own.empty w w.heap.size 5 .u8) [_, _] 2 2 rfl rfl (by omega) (Nat.le_refl _) ?_; intro a1 c1 w1 h1 f1))
  go_ret2
  exact ⟨a1, 2, c1, [91, 93], 0, rfl, .inl (by decide), by omega, h1, own_below (Own.empty w w.heap.size 5 .u8) f1⟩

theorem Inv.cs2 {W w : World} {B : Nat} {a1 : Option Addr} {n1 c1 : Nat} {n2 c2 : Nat} {n3 c3 : Nat} {stt : Nat × Nat} {stk cnt : List Int} {g2 g3 : Nat} (h : Inv W w B a1 n1 c1 (some ⟨g2, 0, none⟩) n2 c2 (some ⟨g3, 0, none⟩) n3 c3 stt stk cnt) {m : Nat} {sv : Int} (e : sv = stk.getD m 0) (hm : m < n2) :
    ∀ v, (w.setCell ⟨g3, m, none⟩ v).cell? ⟨g2, m, none⟩ = some (.int .u8 sv) := by
  intro v
  have hne : g2 ≠ g3 := fun e => h.a23 g2 rfl (by rw [e]; rfl)
  rw [← h.cs e hm]
  exact World.cell?_of_block (by exact Below.heap_setCell w _ v g2 hne)

def lenV : Value → Nat | .slice _ n _ => n | _ => 0

set_option maxRecDepth 20000 in
set_option maxHeartbeats 4000000 in
theorem build_loop (b off len cap : Nat) (zs : List Int) (w : World) (hl : 0 < len) (hm : len ≤ 16384) (hz : ∀ i, i < len → 0 ≤ zs.getD i 0 ∧ zs.getD i 0 ≤ 255) (hc : ∀ i, i < len → w.cell? ⟨b, off + i, none⟩ = some (.int .u8 (zs.getD i 0))) (h3 : zs.getD 0 0 % 8 ≤ 1) :
    Calls Try.prog 14 #[.slice (some ⟨b, off, none⟩) len cap] w (Built w) := by
  have hl' : ((len : Int) == 0) = false := by simp; omega
  obtain ⟨q, hq⟩ : ∃ q, q = zs.getD 0 0 := ⟨_, rfl⟩
  have hq01 := hz 0 hl
  have hc0 := hc 0 hl
  rw [← hq] at hq01 h3 hc0
  simp only [Nat.add_zero] at hc0
  obtain ⟨hq0, hq1⟩ := hq01
  have HZ : Hid (∀ i, i < len → 0 ≤ zs.getD i 0 ∧ zs.getD i 0 ≤ 255) := hz
  have HC : Hid (∀ i, i < len → w.cell? ⟨b, off + i, none⟩ = some (.int .u8 (zs.getD i 0))) := hc
  have hbB : b < w.heap.size := World.block_lt_of_cell? w ⟨b, off, none⟩ hc0
  clear hz hc hq
  have h32 : (q % 8 == 2) = false := by simp; omega
  have h33 : decide (3 ≤ q % 8) = false := by simp; omega
  have hI : Inv w w w.heap.size none 0 0 none 0 0 none 0 0 (0, 0) [] [] :=
    ⟨⟨[], Own.empty _ _ _ _, rfl⟩, Own.empty _ _ _ _, Own.empty _ _ _ _, Apart.empty _, Apart.empty _, Apart.empty _, Below.refl _ _, Nat.le_refl _⟩
  go_enter Try.func14, Try.ntmps14
  go_wp2_with (first | (go_at_call 24; refine (open1 (q % 8) 0 hI (by omega)).mono ?_; rintro e w1 ⟨a1, c1, rfl, hI1⟩; clear hI; have hI := hI1; clear hI1) | (at_builtin; refine wpS rfl (.tmp 43) (.tmp 45) rfl rfl hI [_] 1 1 rfl rfl (by omega) ?_; intro a2 c2 w2 hI2; clear hI; have hI := hI2; clear hI2) | (at_builtin; refine wpC rfl (.tmp 47) (.tmp 48) rfl rfl hI [_] 1 1 rfl rfl (by omega) ?_; intro a3 c3 w3 hI2; clear hI; have hI := hI2; clear hI2))
  go_loopw [4, 6, 7, 8] (fun v4 v6 v7 v8 wr => ∃ (k : Nat) (a1 : Option Addr) (n1 c1 : Nat) (a2 : Option Addr) (m c2 : Nat) (a3 : Option Addr) (c3 : Nat) (stk cnt : List Int), v8 = .int .i64 (k : Int) ∧ v4 = .slice a1 n1 c1 ∧ v6 = .slice a2 m c2 ∧ v7 = .slice a3 m c3 ∧ 1 ≤ k ∧ k ≤ len ∧ n1 ≤ 40 * k ∧ m ≤ k ∧ Inv w wr w.heap.size a1 n1 c1 a2 m c2 a3 m c3 (stand m) stk cnt) (fun _ _ _ v8 _ => len - (intOf v8).toNat)
  case atStart => exact ⟨1, _, _, _, _, _, _, _, _, _, _, rfl, rfl, rfl, rfl, by omega, by omega, by omega, by omega, hI⟩
  case round =>
    obtain ⟨k, a1, n1, c1, a2, m, c2, a3, c3, stk, cnt, rfl, rfl, rfl, rfl, hk1, hk2, hn1, hmk, hI⟩ := hrel
    by_cases hkl : k < len
    · by_cases hm0 : 0 < m
      · obtain ⟨m, rfl⟩ : ∃ j, m = j + 1 := ⟨m - 1, by omega⟩
        obtain ⟨g2, rfl, hg2a, hg2b⟩ := hI.s.head (by omega)
        obtain ⟨g3, rfl, hg3a, hg3b⟩ := hI.c.head (by omega)
        have hst : stand (m + 1) = (0, m + 1) := by simp [stand]
        rw [hst] at hI
        obtain ⟨x, hx⟩ : ∃ x, x = zs.getD k 0 := ⟨_, rfl⟩
        have hcx : wr.cell? ⟨b, off + k, none⟩ = some (.int .u8 x) := by rw [hx]; exact (hI.bel.cell (by exact hbB)).trans (HC.out k hkl)
        have hxb := HZ.out k hkl
        rw [← hx] at hxb
        obtain ⟨hx0, hx1⟩ := hxb
        obtain ⟨sv, hsv⟩ : ∃ sv, sv = stk.getD m 0 := ⟨_, rfl⟩
        obtain ⟨cv, hcv⟩ : ∃ cv, cv = cnt.getD m 0 := ⟨_, rfl⟩
        have hp2 : m + 1 ≤ c2 := hI.s.cap_le.1
        have hp3 : m + 1 ≤ c3 := hI.c.cap_le.1
        have hcs := hI.cs hsv (by omega)
        have hcc := hI.cc hcv (by omega)
        have hcf := hI.cf m
        have HSV : Hid (sv = stk.getD m 0) := hsv
        have HCV : Hid (cv = cnt.getD m 0) := hcv
        clear hsv hcv hx hst
        by_cases h2 : x % 8 = 2
        · have h2' : (x % 8 == 2) = true := by simp [h2]
          go_wp2_with (go_at_call 25; refine (close1 sv m hI (by omega)).mono ?_; rintro e w1 ⟨a1, c1, rfl, hI1⟩; clear hI; have hI := hI1; clear hI1)
          go_roundw
          case rel => exact ⟨k + 1, a1, n1 + 1, c1, _, m, c2, _, c3, _, _, by go_num, rfl, rfl, rfl, by omega, by omega, by omega, by omega, (hI.pop2 m (by omega)).pop3 m (by omega)⟩
          case measure => simp [intOf]; omega
        · have h2' : (x % 8 == 2) = false := by simp [h2]
          have hcs2 : ∀ v, (wr.setCell ⟨g3, m, none⟩ v).cell? ⟨g2, m, none⟩ = some (.int .u8 sv) := hI.cs2 HSV.out (by omega)
          by_cases h1 : sv = 1
          · subst h1
            go_wp2_with (first | (at_builtin; refine wpO rfl (.tmp 89) (.tmp 90) rfl rfl hI [_, _] 2 2 rfl rfl (rd_comma (m + 1) (by omega)) (by omega) ?_; intro a1 c1 w1 hI1; clear hI hcs2 hcs hcc hcf; have hI := hI1; clear hI1; have hcs := hI.cs HSV.out (by omega); have hcc := hI.cc HCV.out (by omega); have hcf := hI.cf m; have hcs2 : ∀ v, (w1.setCell ⟨g3, m, none⟩ v).cell? ⟨g2, m, none⟩ = some (.int .u8 1) := hI.cs2 HSV.out (by omega)) | (go_at_call 26; refine (key1 (m + 1) (by omega) (hI.store m _) (by omega)).mono ?_; rintro e w2 ⟨a1, c1, rfl, hI1⟩; clear hI; have hI := hI1; clear hI1) | (go_at_call 24; refine (open1 (x % 8) (m + 1) hI (by omega)).mono ?_; rintro e w3 ⟨a1, c1, rfl, hI1⟩; clear hI; have hI := hI1; clear hI1) | (at_builtin; refine wpS rfl (.tmp 112) (.tmp 114) rfl rfl hI [_] 1 1 rfl rfl (by omega) ?_; intro a2 c2 w4 hI1; clear hI; have hI := hI1; clear hI1) | (at_builtin; refine wpC rfl (.tmp 116) (.tmp 117) rfl rfl hI [_] 1 1 rfl rfl (by omega) ?_; intro a3 c3 w5 hI1; clear hI; have hI := hI1; clear hI1) | (go_at_call 23; refine (scal1 (x % 8) x hx0 hx1 (m + 1) (by omega) hI (by omega)).mono ?_; rintro e w3 ⟨a1, n2, c1, rfl, hn2, hI1⟩; clear hI; have hI := hI1; clear hI1))
            all_goals
              go_roundw
              case rel => first | exact ⟨k + 1, a1, _, c1, _, m + 2, c2, _, c3, _, _, by go_num, rfl, rfl, rfl, by omega, by omega, by omega, by omega, hI⟩ | exact ⟨k + 1, a1, n2, c1, _, m + 1, c2, _, c3, _, _, by go_num, rfl, rfl, rfl, by omega, by omega, by omega, by omega, hI⟩
              case measure => simp [intOf]; omega
          · have h1' : (sv == 1) = false := by simp [h1]
            go_wp2_with (first | (at_builtin; refine wpO rfl (.tmp 89) (.tmp 90) rfl rfl hI [_, _] 2 2 rfl rfl (rd_comma (m + 1) (by omega)) (by omega) ?_; intro a1 c1 w1 hI1; clear hI hcs2 hcs hcc hcf; have hI := hI1; clear hI1; have hcs := hI.cs HSV.out (by omega); have hcc := hI.cc HCV.out (by omega); have hcf := hI.cf m; have hcs2 : ∀ v, (w1.setCell ⟨g3, m, none⟩ v).cell? ⟨g2, m, none⟩ = some (.int .u8 sv) := hI.cs2 HSV.out (by omega)) | (go_at_call 24; refine (open1 (x % 8) (m + 1) (hI.store m _) (by omega)).mono ?_; rintro e w3 ⟨a1, c1, rfl, hI1⟩; clear hI; have hI := hI1; clear hI1) | (at_builtin; refine wpS rfl (.tmp 112) (.tmp 114) rfl rfl hI [_] 1 1 rfl rfl (by omega) ?_; intro a2 c2 w4 hI1; clear hI; have hI := hI1; clear hI1) | (at_builtin; refine wpC rfl (.tmp 116) (.tmp 117) rfl rfl hI [_] 1 1 rfl rfl (by omega) ?_; intro a3 c3 w5 hI1; clear hI; have hI := hI1; clear hI1) | (go_at_call 23; refine (scal1 (x % 8) x hx0 hx1 (m + 1) (by omega) (hI.store m _) (by omega)).mono ?_; rintro e w3 ⟨a1, n2, c1, rfl, hn2, hI1⟩; clear hI; have hI := hI1; clear hI1))
            all_goals
              go_roundw
              case rel => first | exact ⟨k + 1, a1, _, c1, _, m + 2, c2, _, c3, _, _, by go_num, rfl, rfl, rfl, by omega, by omega, by omega, by omega, hI⟩ | exact ⟨k + 1, a1, n2, c1, _, m + 1, c2, _, c3, _, _, by go_num, rfl, rfl, rfl, by omega, by omega, by omega, by omega, hI⟩
              case measure => simp [intOf]; omega
      · obtain rfl : m = 0 := by omega
        go_wp2_with fail
        go_loopw [4, 6] (fun v4 v6 w5 => ∃ (a1 : Option Addr) (n1 c1 : Nat) (a2 : Option Addr) (j c2 : Nat) (stk : List Int), v4 = .slice a1 n1 c1 ∧ v6 = .slice a2 j c2 ∧ n1 + j ≤ 700000 ∧ Inv w w5 w.heap.size a1 n1 c1 a2 j c2 a3 0 c3 (stand j) stk cnt) (fun _ v6 _ => lenV v6)
        case atStart => exact ⟨_, _, _, _, _, _, _, rfl, rfl, by omega, hI⟩
        case round =>
          clear hI
          obtain ⟨a1, n1, c1, a2, j, c2, stk, rfl, rfl, hnj, hI⟩ := hrel
          by_cases hj : 0 < j
          · obtain ⟨j, rfl⟩ : ∃ i, j = i + 1 := ⟨j - 1, by omega⟩
            obtain ⟨g2, rfl, hg2a, hg2b⟩ := hI.s.head (by omega)
            have hst : stand (j + 1) = (0, j + 1) := by simp [stand]
            rw [hst] at hI
            have hp2 : j + 1 ≤ c2 := hI.s.cap_le.1
            obtain ⟨sv, hsv⟩ : ∃ sv, sv = stk.getD j 0 := ⟨_, rfl⟩
            have hcs := hI.cs hsv (by omega)
            clear hsv hst
            go_wp2_with (go_at_call 25; refine (close1 sv j hI (by omega)).mono ?_; rintro e w1 ⟨a1, c1, rfl, hI1⟩; clear hI; have hI := hI1; clear hI1)
            go_roundw
            case rel => exact ⟨a1, n1 + 1, c1, _, j, c2, _, rfl, rfl, by omega, hI.pop2 j (by omega)⟩
            case measure => simp [lenV]
          · obtain rfl : j = 0 := by omega
            go_wp2_with fail
            go_ret2
            obtain ⟨V, hV, hr⟩ := hI.o
            exact ⟨a1, n1, c1, V, _, rfl, .inl hr, by omega, hV, hI.bel⟩
    · skip
      go_wp2_with fail
      go_loopw [4, 6] (fun v4 v6 w5 => ∃ (a1 : Option Addr) (n1 c1 : Nat) (a2 : Option Addr) (j c2 : Nat) (stk : List Int), v4 = .slice a1 n1 c1 ∧ v6 = .slice a2 j c2 ∧ n1 + j ≤ 700000 ∧ Inv w w5 w.heap.size a1 n1 c1 a2 j c2 a3 m c3 (stand j) stk cnt) (fun _ v6 _ => lenV v6)
      case atStart => exact ⟨_, _, _, _, _, _, _, rfl, rfl, by omega, hI⟩
      case round =>
        clear hI
        obtain ⟨a1, n1, c1, a2, j, c2, stk, rfl, rfl, hnj, hI⟩ := hrel
        by_cases hj : 0 < j
        · obtain ⟨j, rfl⟩ : ∃ i, j = i + 1 := ⟨j - 1, by omega⟩
          obtain ⟨g2, rfl, hg2a, hg2b⟩ := hI.s.head (by omega)
          have hst : stand (j + 1) = (0, j + 1) := by simp [stand]
          rw [hst] at hI
          have hp2 : j + 1 ≤ c2 := hI.s.cap_le.1
          obtain ⟨sv, hsv⟩ : ∃ sv, sv = stk.getD j 0 := ⟨_, rfl⟩
          have hcs := hI.cs hsv (by omega)
          clear hsv hst
          go_wp2_with (go_at_call 25; refine (close1 sv j hI (by omega)).mono ?_; rintro e w1 ⟨a1, c1, rfl, hI1⟩; clear hI; have hI := hI1; clear hI1)
          go_roundw
          case rel => exact ⟨a1, n1 + 1, c1, _, j, c2, _, rfl, rfl, by omega, hI.pop2 j (by omega)⟩
          case measure => simp [lenV]
        · obtain rfl : j = 0 := by omega
          go_wp2_with fail
          go_ret2
          obtain ⟨V, hV, hr⟩ := hI.o
          exact ⟨a1, n1, c1, V, _, rfl, .inl hr, by omega, hV, hI.bel⟩
end Go.Proofs.Qxb6001551a
