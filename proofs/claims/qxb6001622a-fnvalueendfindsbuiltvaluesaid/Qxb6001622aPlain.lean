/-
  THE PLAIN PART: a reader of JSON text, byte by byte, and what it makes of the pieces that the builder lays. No Go here.
-/
namespace Go.Proofs.Qxb6001622a

/-- The reader's state: (mode, depth): mode 0: between tokens; 1: in a string; 2: behind a backslash in a string; 3: the value has just ended; 4: something stands behind the end, or no value of this sort begins here. -/
def stp (s : Nat × Nat) (c : Int) : Nat × Nat :=
  if s.1 = 0 then
    (if c = 34 then (1, s.2)
     else if c = 123 ∨ c = 91 then (0, s.2 + 1)
     else if s.2 = 0 then (4, 0)
     else if c = 125 ∨ c = 93 then (if s.2 = 1 then (3, 0) else (0, s.2 - 1))
     else (0, s.2))
  else if s.1 = 1 then
    (if c = 34 then (if s.2 = 0 then (3, 0) else (0, s.2)) else if c = 92 then (2, s.2) else (1, s.2))
  else if s.1 = 2 then (1, s.2)
  else (4, 0)

def rd (s : Nat × Nat) (xs : List Int) : Nat × Nat := xs.foldl stp s

theorem rd_nil (s : Nat × Nat) : rd s [] = s := rfl
theorem rd_cons (s : Nat × Nat) (c : Int) (xs : List Int) : rd s (c :: xs) = rd (stp s c) xs := rfl
theorem rd_app (s : Nat × Nat) (xs ys : List Int) : rd s (xs ++ ys) = rd (rd s xs) ys := by simp [rd]

/-- A byte of a number, 'true', 'false', 'null': none of the delimiters, no quote, no bracket. -/
def bare (c : Int) : Prop := c ≠ 34 ∧ c ≠ 123 ∧ c ≠ 91 ∧ c ≠ 125 ∧ c ≠ 93 ∧ c ≠ 44 ∧ c ≠ 32 ∧ c ≠ 9 ∧ c ≠ 10 ∧ c ≠ 13 ∧ 0 ≤ c ∧ c ≤ 255

theorem stp_bare (d : Nat) (hd : 1 ≤ d) (c : Int) (h : bare c) : stp (0, d) c = (0, d) := by
  unfold bare at h
  simp [stp, h]
  omega

theorem rd_bare (d : Nat) (hd : 1 ≤ d) : ∀ xs : List Int, (∀ y ∈ xs, bare y) → rd (0, d) xs = (0, d)
  | [], _ => rfl
  | c :: xs, h => by
    rw [rd_cons, stp_bare d hd c (h c (by simp))]
    exact rd_bare d hd xs (fun y hy => h y (by simp [hy]))

/-- What stands for a scalar: neutral inside a container; alone: a whole string, or bare bytes. -/
def Scal (ys : List Int) : Prop := (∀ d, 1 ≤ d → rd (0, d) ys = (0, d)) ∧ (rd (0, 0) ys = (3, 0) ∨ (ys ≠ [] ∧ ∀ y ∈ ys, bare y))

theorem scal_bare (ys : List Int) (h0 : ys ≠ []) (h : ∀ y ∈ ys, bare y) : Scal ys := ⟨fun d hd => rd_bare d hd ys h, .inr ⟨h0, h⟩⟩

theorem scal_str (zs : List Int) (h : ∀ d, rd (1, d) zs = (1, d)) : Scal ([34] ++ zs ++ [92, 92, 92, 34, 34]) := by
  refine ⟨?_, .inl ?_⟩
  · intro d hd
    rw [List.append_assoc, rd_app, rd_app]
    have : rd (0, d) [34] = (1, d) := by simp [rd, stp]
    rw [this, h]
    simp [rd, stp]
    omega
  · rw [List.append_assoc, rd_app, rd_app]
    have : rd (0, 0) [34] = (1, 0) := by simp [rd, stp]
    rw [this, h]
    simp [rd, stp]

theorem str_esc (c : Int) (d : Nat) : rd (1, d) [92, c] = (1, d) := by simp [rd, stp]
theorem str_one (c : Int) (h1 : c ≠ 34) (h2 : c ≠ 92) (d : Nat) : rd (1, d) [c] = (1, d) := by simp [rd, stp, h1, h2]

theorem rd_comma (d : Nat) (hd : 1 ≤ d) : rd (0, d) [44, 32] = (0, d) := by
  have h : d ≠ 0 := by omega
  simp [rd, stp, h]
theorem rd_key (d : Nat) (hd : 1 ≤ d) : rd (0, d) [34, 107, 92, 34, 125, 34, 58, 32] = (0, d) := by
  have h : d ≠ 0 := by omega
  simp [rd, stp, h]
theorem rd_open (d : Nat) (y : Int) (hy : y = 91 ∨ y = 123) : rd (0, d) [y] = (0, d + 1) := by
  rcases hy with rfl | rfl <;> simp [rd, stp]
/-- Where the reader stands when so many containers are open. -/
def stand (d : Nat) : Nat × Nat := if d = 0 then (3, 0) else (0, d)
theorem rd_close (d : Nat) (y : Int) (hy : y = 93 ∨ y = 125) : rd (0, d + 1) [y] = stand d := by
  rcases hy with rfl | rfl <;> simp [rd, stp, stand]

/-! ### the reader along a text -/
/-- The reader's state behind the first k bytes of V. -/
def at_ (V : List Int) (k : Nat) : Nat × Nat := rd (0, 0) (V.take k)

theorem at_succ (V : List Int) (k : Nat) (h : k < V.length) : at_ V (k + 1) = stp (at_ V k) (V.getD k 0) := by
  unfold at_
  rw [List.take_succ_eq_append_getElem h, rd_app]
  simp [rd, List.getD, h]

theorem at_end (V : List Int) : at_ V V.length = rd (0, 0) V := by simp [at_]
theorem at_zero (V : List Int) : at_ V 0 = (0, 0) := rfl

theorem dead (s : Nat × Nat) (h : s.1 = 3 ∨ s.1 = 4) (c : Int) : stp s c = (4, 0) := by
  unfold stp
  rcases h with h | h <;> simp [h]

theorem rd_dead : ∀ (xs : List Int) (s : Nat × Nat), s.1 = 3 ∨ s.1 = 4 → xs ≠ [] → rd s xs = (4, 0)
  | [], _, _, h => absurd rfl h
  | [c], s, h, _ => dead s h c
  | c :: d :: xs, s, h, _ => by
    rw [rd_cons, dead s h c]
    exact rd_dead (d :: xs) (4, 0) (.inr rfl) (by simp)

/-- Where the whole text reads as one value, the reader is never done before its end. -/
theorem not_done (V : List Int) (hV : rd (0, 0) V = (3, 0)) (k : Nat) (hk : k < V.length) : (at_ V k).1 ≠ 3 ∧ (at_ V k).1 ≠ 4 := by
  have e : rd (at_ V k) (V.drop k) = (3, 0) := by
    unfold at_
    rw [← rd_app, List.take_append_drop]
    exact hV
  have hne : V.drop k ≠ [] := by
    intro h
    have := List.drop_eq_nil_iff.1 h
    omega
  constructor <;> intro h
  · rw [rd_dead _ _ (.inl h) hne] at e; simp at e
  · rw [rd_dead _ _ (.inr h) hne] at e; simp at e

theorem done_at (V : List Int) (hV : rd (0, 0) V = (3, 0)) (k : Nat) (hk : k ≤ V.length) (h : at_ V k = (3, 0)) : k = V.length := by
  by_cases hlt : k < V.length
  · have := (not_done V hV k hlt).1
    rw [h] at this
    simp at this
  · omega

end Go.Proofs.Qxb6001622a
