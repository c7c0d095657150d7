/-
  THE PLAIN PART: the decimal text of a magnitude, and reading it back. No Go here.
-/
namespace Go.Proofs.Qxb6600163a

/-- The digit of m at 10^k. -/
def dN (m k : Nat) : Nat := m / 10 ^ k % 10
/-- .. as a byte. -/
def d8 (m k : Nat) : UInt8 := UInt8.ofNat (48 + dN m k)

theorem dN_lt (m k : Nat) : dN m k < 10 := Nat.mod_lt _ (by omega)
theorem d8_toNat (m k : Nat) : (d8 m k).toNat = 48 + dN m k := by
  have := dN_lt m k
  unfold d8
  rw [UInt8.toNat_ofNat']
  omega
theorem d8_ne (m k : Nat) (c : UInt8) (h : c.toNat < 48) : d8 m k ≠ c := by
  intro e
  have := d8_toNat m k
  rw [e] at this
  omega

/-- n digits, from 10^(a+n-1) down to 10^a. -/
def digs (m a : Nat) : Nat → List UInt8
  | 0 => []
  | n + 1 => d8 m (a + n) :: digs m a n

theorem digs_length (m a : Nat) : ∀ n, (digs m a n).length = n
  | 0 => rfl
  | n + 1 => by simp [digs, digs_length m a n]

theorem digs_ne (m a : Nat) (c : UInt8) (h : c.toNat < 48) : ∀ n, c ∉ digs m a n
  | 0 => by simp [digs]
  | n + 1 => by
    simp only [digs, List.mem_cons, not_or]
    exact ⟨fun e => d8_ne m (a + n) c h e.symm, digs_ne m a c h n⟩

theorem digs_get (m a : Nat) : ∀ n i, i < n → (digs m a n).getD i 0 = d8 m (a + (n - 1 - i))
  | 0, i, h => by omega
  | n + 1, 0, _ => by simp [digs]
  | n + 1, i + 1, h => by
    have := digs_get m a n i (by omega)
    simp only [digs, List.getD_cons_succ]
    rw [this]
    congr 2
    omega

/-- What has been written behind j rounds: the fraction's P digits, a point, the rest. -/
def txt (m P j : Nat) : List UInt8 := if j ≤ P ∨ P = 0 then digs m 0 j else digs m P (j - P) ++ 46 :: digs m 0 P

theorem txt_zero (m P : Nat) : txt m P 0 = [] := by simp [txt, digs]
theorem txt_plain (m P j : Nat) (h : ¬ (j = P ∧ 0 < P)) : txt m P (j + 1) = d8 m j :: txt m P j := by
  unfold txt
  by_cases h1 : j + 1 ≤ P ∨ P = 0
  · have h2 : j ≤ P ∨ P = 0 := by omega
    rw [if_pos h1, if_pos h2]
    simp [digs]
  · have h2 : ¬ (j ≤ P ∨ P = 0) := by omega
    rw [if_neg h1, if_neg h2, show j + 1 - P = (j - P) + 1 by omega]
    simp only [digs, List.cons_append]
    rw [show P + (j - P) = j by omega]
theorem txt_point (m P : Nat) (h : 0 < P) : txt m P (P + 1) = d8 m P :: 46 :: txt m P P := by
  unfold txt
  rw [if_neg (by omega), if_pos (by omega), show P + 1 - P = 0 + 1 by omega]
  simp [digs]

theorem txt_length (m P j : Nat) : (txt m P j).length = j + (if j ≤ P ∨ P = 0 then 0 else 1) := by
  unfold txt
  split
  · simp [digs_length]
  · simp [digs_length]; omega

/-- The magnitude's digits read from the front: behind n of D digits. -/
theorem acc_succ (m D n : Nat) (h : n < D) : m / 10 ^ (D - (n + 1)) = m / 10 ^ (D - n) * 10 + dN m (D - 1 - n) := by
  have e : D - n = (D - (n + 1)) + 1 := by omega
  have e2 : D - 1 - n = D - (n + 1) := by omega
  unfold dN
  rw [e, e2, Nat.pow_succ, ← Nat.div_div_eq_div_mul]
  omega

theorem div_step (m j : Nat) : m / 10 ^ j / 10 = m / 10 ^ (j + 1) := by
  rw [Nat.div_div_eq_div_mul, ← Nat.pow_succ]

theorem div_small (m j : Nat) (hm : m ≤ 9223372036854775808) (hj : 19 ≤ j) : m / 10 ^ j = 0 := by
  apply Nat.div_eq_of_lt
  have : 10 ^ 19 ≤ 10 ^ j := Nat.pow_le_pow_right (by omega) hj
  have h19 : (10 : Nat) ^ 19 = 10000000000000000000 := by decide
  omega
end Go.Proofs.Qxb6600163a
