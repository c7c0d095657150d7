/-
  THE WALK OF AppendUnits.
-/
import Derived.Test.Qxb6600163aMag
namespace Go.Proofs.Qxb6600163a
open Go.RowKit
set_option linter.unusedVariables false

theorem info5 : (Try.prog.info? 5).map (fun i => (i.zero, i.size, i.bytes)) = some (some (.int .u8 0), 1, 1) := by kernel_rfl

def ints (l : List UInt8) : List Int := l.map (fun b => (b.toNat : Int))
theorem ints_length (l : List UInt8) : (ints l).length = l.length := by simp [ints]

/-- The text of u, whose magnitude is m. -/
def text (u : Int) (m P D : Nat) : List UInt8 := (if u < 0 then [45] else []) ++ txt m P D

/-- What AppendUnits leaves. -/
def AppPost (w : World) (u : Int) (m P : Nat) (e : Ending) (w' : World) : Prop :=
  ∃ (ao : Option Addr) (n cap D : Nat), e = .returned (.slice ao n cap) ∧ P < D ∧ D ≤ P + 20 ∧ m / 10 ^ D = 0 ∧ Own w' w.heap.size 5 .u8 ao n cap (ints (text u m P D)) ∧ Below w.heap.size w w'

theorem wpX {w : World} {ops : Array Oper} {rest : List Oper} {o : Oper} {a : Act} {Q : Exit → Act → World → Prop} (hgd : o.guard = none) (s x : Operand)
    (ho : o.op = .call { callee := .builtin .append, args := #[s, x], argTypes := #[25, 25] })
    (B : Nat) (ao : Option Addr) (n cap : Nat) (xs : List Int) (hs : a.eval s = .slice ao n cap) (hown : Own w B 5 .u8 ao n cap xs)
    (so : Option Addr) (ys : List Int) (m c : Nat) (hm : ys.length = m) (hx : a.eval x = .slice so m c) (hnone : so = none → m = 0 ∧ c = 0) (hcell : ∀ ad, so = some ad → ∀ j, j < m → w.cell? (ad.add j) = some (.int .u8 (ys.getD j 0)))
    (hb : n + m ≤ 140737488355328) (hB : B ≤ w.heap.size)
    (h : ∀ ao' cap' w', Own w' B 5 .u8 ao' (n + m) cap' (xs ++ ys) → Eff w w' ao ao' → wpList Try.prog ops Q rest (a.put o.dst (.slice ao' (n + m) cap')) w') :
    wpList Try.prog ops Q (o :: rest) a w := by
  obtain ⟨i, hi, hz0, hz1, hz2⟩ := info_parts info5
  exact wp_app_src hgd s x 25 ho B 5 .u8 i 1 Try.underlying25 hi hz0 hz1 hz2 ao n cap xs hs hown so ys m c hm hx hnone hcell (by omega) hb hB h

/-- The buffer: L bytes, the last of them the text so far. -/
structure Buf (W w : World) (E : TypeId) (g L i P : Nat) (t : List UInt8) : Prop where
  own : ∃ cs, Own w W.heap.size E .u8 (some ⟨g, 0, none⟩) L L cs ∧ cs.drop i = ints t
  len : i + t.length = L
  kind : w.cell? ⟨W.heap.size, 1, none⟩ = some (.int .i32 (P : Int))
  bel : Below W.heap.size W w
  ne : W.heap.size < g

theorem drop_set {cs : List Int} {i : Nat} {z : Int} {t : List Int} (hl : i + 1 ≤ cs.length) (h : cs.drop (i + 1) = t) : (cs.set i z).drop i = z :: t := by
  rw [List.drop_eq_getElem_cons (by simp; omega)]
  congr 1
  · simp
  · rw [List.drop_set_of_lt (by omega)]
    exact h

theorem Buf.push {W w : World} {E : TypeId} {g L i P : Nat} {t : List UInt8} (h : Buf W w E g L (i + 1) P t) (b : UInt8) : Buf W (w.setCell ⟨g, i, none⟩ (.int .u8 (b.toNat : Int))) E g L i P (b :: t) := by
  obtain ⟨cs, ho, hd⟩ := h.own
  have hl := ho.len
  have hL := h.len
  refine ⟨⟨cs.set i (b.toNat : Int), (ho.stored i _).1, ?_⟩, ?_, ?_, h.bel.setCell (by exact Nat.le_of_lt h.ne) _, h.ne⟩
  · exact drop_set (by omega) hd
  · simp; omega
  · rw [← h.kind]
    have := h.ne
    exact World.cell?_of_block (by exact Below.heap_setCell w _ _ W.heap.size (by simp only; omega))

theorem Buf.cell {W w : World} {E : TypeId} {g L i P : Nat} {t : List UInt8} (h : Buf W w E g L i P t) (k : Nat) (hk : k < L) : ∃ y : Int, w.cell? ⟨g, k, none⟩ = some (.int .u8 y) := by
  obtain ⟨cs, ho, hd⟩ := h.own
  exact ⟨_, ho.cell k hk⟩
theorem Buf.free {W w : World} {E : TypeId} {g L i P : Nat} {t : List UInt8} (h : Buf W w E g L i P t) (k : Nat) : w.frozen? ⟨g, k, none⟩ = false := by
  obtain ⟨cs, ho, hd⟩ := h.own
  exact ho.free k

theorem no_none {x : Addr} {p : Prop} : some x = none → p := fun h => by cases h

/-- The text's cells, for the append. -/
theorem Buf.src {W w : World} {E : TypeId} {g L i P : Nat} {t : List UInt8} (h : Buf W w E g L i P t) : ∀ ad, some (⟨g, i, none⟩ : Addr) = some ad → ∀ j, j < L - i → w.cell? (ad.add j) = some (.int .u8 ((ints t).getD j 0)) := by
  intro ad e j hj
  obtain rfl := Option.some.inj e
  obtain ⟨cs, ho, hd⟩ := h.own
  rw [Addr.add_lit, ho.cell (i + j) (by omega), ← hd]
  simp [List.getD]

theorem Buf.new48 (W : World) (P : Nat) (o : Obj) (zs : Array Value) (hz : zs.toList = (List.replicate 48 (0 : Int)).map (Value.int .u8)) (ho : (W.alloc o).cell? ⟨W.heap.size, 1, none⟩ = some (.int .i32 (P : Int))) :
    Buf W ((W.alloc o).alloc (.cells zs 36)) 36 (W.heap.size + 1) 48 48 P [] := by
  have hs : (W.alloc o).heap.size = W.heap.size + 1 := by simp
  have hn : zs.size = 48 := by
    have := congrArg List.length hz
    simpa using this
  refine ⟨⟨List.replicate 48 0, ?_, by simp [ints]⟩, rfl, ?_, ((Below.refl _ _).alloc (Nat.le_refl _) _).alloc (by simp) _, by omega⟩
  · have := World.ownsRow_lit (base := W.heap.size) (e := 36) (size := 1) (W.alloc o) zs 48 (by simp) (by unfold maxLen; omega) (by omega)
    rw [hs, hz] at this
    exact this
  · rw [← ho]
    exact World.cell?_alloc_lt _ _ _ (by simp)

theorem own_made {w : World} {B : Nat} {v : Value} {n : Nat} (h : w.ownsRow B 5 1 v n (madeCells (Value.int .u8 0).cells (n * 1)).toList) {ao : Option Addr} {cap : Nat} (e : v = .slice ao n cap) : Own w B 5 .u8 ao n cap (List.replicate n 0) := by
  subst e
  unfold Own
  have : (madeCells (Value.int .u8 0).cells (n * 1)).toList = (List.replicate n (0 : Int)).map (Value.int .u8) := by
    rw [Nat.mul_one]
    show (madeCells #[Value.int .u8 0] n).toList = _
    rw [toList_madeCells_one]
    simp
  rw [this] at h
  exact h

theorem Buf.made (W : World) (o o2 : Obj) (w2 : World) (P : Nat) (hs : ((W.alloc o).alloc o2).heap.size = W.heap.size + 1 + 1) (ho : (W.alloc o).cell? ⟨W.heap.size, 1, none⟩ = some (.int .i32 (P : Int)))
    (hown : w2.ownsRow W.heap.size 5 1 (.slice (some ⟨((W.alloc o).alloc o2).heap.size, 0, none⟩) (P + 22) (P + 22)) (P + 22) (madeCells (Value.int .u8 0).cells ((P + 22) * 1)).toList) (hg : ((W.alloc o).alloc o2).grownBy w2 none) :
    Buf W w2 5 (W.heap.size + 1 + 1) (P + 22) (P + 22) P [] := by
  rw [hs] at hown
  refine ⟨⟨List.replicate (P + 22) 0, own_made hown rfl, by simp [ints]⟩, rfl, ?_, (((Below.refl _ _).alloc (Nat.le_refl _) _).alloc (by simp) _).grown hg (by simp; omega) (fun k hk => by cases hk), by omega⟩
  refine hg.cell ?_ (by simp)
  rw [← ho]
  exact World.cell?_alloc_lt _ _ _ (by simp)

theorem txt_le (m P j : Nat) : (txt m P j).length ≤ j + 1 ∧ j ≤ (txt m P j).length := by
  rw [txt_length]
  split <;> omega

theorem div_pos_lt {m j : Nat} (hm : m ≤ 9223372036854775808) (h : 0 < m / 10 ^ j) : j ≤ 18 := by
  by_cases hj : 19 ≤ j
  · rw [div_small m j hm hj] at h; omega
  · omega

theorem d8_int (m j q : Nat) (h : q = m / 10 ^ j) : ((d8 m j).toNat : Int) = 48 + (q : Int) % 10 := by
  rw [d8_toNat, h]
  unfold dN
  omega

set_option maxRecDepth 20000 in
set_option maxHeartbeats 4000000 in
theorem app_small (P : Nat) (hP : P ≤ 26) (u : Int) (m : Nat) (hm : IsMag u m) (w : World) : Calls Try.prog 7 #[.agg #[.string { data := #[] }, .int .i32 (P : Int), .int .i64 0], .slice none 0 0, .int .i64 u] w (AppPost w u m P) := by
  have HM : Hid (IsMag u m) := hm
  have hml := hm.le
  clear hm
  have d1 : decide ((48 : Int) < (P : Int) + 22) = false := by simp; omega
  go_enter Try.func7, Try.ntmps7
  go_wp2_with (go_at_call 13; refine (mag0 u m _ HM.out).mono ?_; rintro e w1 ⟨rfl, rfl⟩)
  have hB0 := Buf.new48 w P (Obj.cells #[Value.string { data := #[] }, Value.int IntKind.i32 (P : Int), Value.int IntKind.i64 0] 24) _ rfl (by rw [World.cell?_alloc_new]; rfl)
  go_loopw [7, 11, 12] (fun v7 v11 v12 wr => ∃ (j i q : Nat), v7 = .int .u64 (q : Int) ∧ v11 = .int .i64 (i : Int) ∧ v12 = .int .i64 (j : Int) ∧ Hid (q = m / 10 ^ j) ∧ q ≤ 9223372036854775808 ∧ j ≤ P + 20 ∧ Buf w wr 36 (w.heap.size + 1) 48 i P (txt m P j)) (fun _ _ v12 _ => P + 21 - (intOf v12).toNat)
  case atStart => exact ⟨0, 48, m, rfl, by go_num, rfl, by show m = m / 10 ^ 0; simp, hml, by omega, by rw [txt_zero]; exact hB0⟩
  case round =>
    clear hB0
    obtain ⟨j, i, q, rfl, rfl, rfl, hq, hqb, hj, hBf⟩ := hrel
    have hlen := hBf.len
    have htl := txt_le m P j
    have hk := hBf.kind
    by_cases hjP : j ≤ P
    · obtain ⟨i, rfl⟩ : ∃ k, i = k + 2 := ⟨i - 2, by omega⟩
      obtain ⟨y1, hc1⟩ := hBf.cell (i + 1) (by omega)
      have hf1 := hBf.free (i + 1)
      have hbL : i + 2 ≤ 48 := by omega
      by_cases hpt : j = P ∧ 0 < P
      · obtain ⟨hp1, hp2⟩ := hpt
        subst hp1
        have e1 : ((j : Int) == (j : Int)) = true := by simp
        have e2 : decide ((0 : Int) < (j : Int)) = true := by simp; omega
        have hBp : Buf w (wr.setCell ⟨w.heap.size + 1, i + 1, none⟩ (.int .u8 46)) 36 (w.heap.size + 1) (48) (i + 1) j (46 :: txt m j j) := hBf.push 46
        obtain ⟨y2, hc2⟩ := hBp.cell i (by omega)
        have hf2 := hBp.free i
        have HN := hBp.push (d8 m j)
        rw [d8_int m j q hq.out, ← txt_point m j hp2] at HN
        have HQ : Hid (q / 10 = m / 10 ^ (j + 1)) := by
          show q / 10 = m / 10 ^ (j + 1)
          rw [hq.out, div_step]
        clear hBf hBp hlen htl
        go_wp2
        go_roundw
        case rel => exact ⟨j + 1, i, q / 10, by simp, by go_num, by go_num, HQ, by omega, by omega, HN⟩
        case measure => first | (simp [intOf]; done) | (simp [intOf]; omega)
      · have HN := hBf.push (d8 m j)
        rw [d8_int m j q hq.out, ← txt_plain m P j hpt] at HN
        have HQ : Hid (q / 10 = m / 10 ^ (j + 1)) := by
          show q / 10 = m / 10 ^ (j + 1)
          rw [hq.out, div_step]
        by_cases hjp : j = P
        · obtain rfl : P = 0 := by omega
          subst hjp
          clear hBf hlen htl hpt
          go_wp2
          go_roundw
          case rel => exact ⟨1, i + 1, q / 10, by simp, by go_num, by go_num, HQ, by omega, by omega, HN⟩
          case measure => first | (simp [intOf]; done) | (simp [intOf]; omega)
        · have e1 : ((j : Int) == (P : Int)) = false := by simp; omega
          clear hBf hlen htl hpt
          go_wp2
          go_roundw
          case rel => exact ⟨j + 1, i + 1, q / 10, by simp, by go_num, by go_num, HQ, by omega, by omega, HN⟩
          case measure => first | (simp [intOf]; done) | (simp [intOf]; omega)
    · by_cases hq0 : 0 < q
      · have hj18 : j ≤ 18 := div_pos_lt hml (by rw [← hq.out]; exact hq0)
        obtain ⟨i, rfl⟩ : ∃ k, i = k + 2 := ⟨i - 2, by omega⟩
        obtain ⟨y1, hc1⟩ := hBf.cell (i + 1) (by omega)
        have hf1 := hBf.free (i + 1)
        have hbL : i + 2 ≤ 48 := by omega
        have HN := hBf.push (d8 m j)
        rw [d8_int m j q hq.out, ← txt_plain m P j (by omega)] at HN
        have HQ : Hid (q / 10 = m / 10 ^ (j + 1)) := by
          show q / 10 = m / 10 ^ (j + 1)
          rw [hq.out, div_step]
        have e1 : ((j : Int) == (P : Int)) = false := by simp; omega
        clear hBf hlen htl
        go_wp2
        go_roundw
        case rel => exact ⟨j + 1, i + 1, q / 10, by simp, by go_num, by go_num, HQ, by omega, by omega, HN⟩
        case measure => first | (simp [intOf]; done) | (simp [intOf]; omega)
      · obtain rfl : q = 0 := by omega
        have hD : Hid (m / 10 ^ j = 0) := hq.out.symm
        by_cases hu : u < 0
        · obtain ⟨i, rfl⟩ : ∃ k, i = k + 1 := ⟨i - 1, by omega⟩
          obtain ⟨y1, hc1⟩ := hBf.cell i (by omega)
          have hf1 := hBf.free i
          have hbL : i + 1 ≤ 48 := by omega
          have HL : Hid (i + 1 + (txt m P j).length = 48) := hlen
          clear hlen
          have HN : Buf w (wr.setCell ⟨w.heap.size + 1, i, none⟩ (.int .u8 45)) 36 (w.heap.size + 1) (48) i P (45 :: txt m P j) := hBf.push 45
          have HT : Hid (text u m P j = 45 :: txt m P j) := by
            show text u m P j = 45 :: txt m P j
            simp [text, hu]
          clear hBf
          have HLn : Hid ((ints (45 :: txt m P j)).length = 48 - i) := by
            show (ints (45 :: txt m P j)).length = 48 - i
            have := HL.out
            rw [ints_length]; simp; omega
          have hsz : w.heap.size ≤ (wr.setCell ⟨w.heap.size + 1, i, none⟩ (.int .u8 45)).heap.size := HN.bel.size
          go_wp2_with (at_builtin; refine wpX rfl (.tmp 71) (.tmp 74) rfl w.heap.size none 0 0 [] rfl (Own.empty _ _ _ _) (some ⟨w.heap.size + 1, i, none⟩) (ints (45 :: txt m P j)) (48 - i) (48 - i) HLn.out rfl no_none HN.src (by omega) hsz ?_; intro ao cap w3 hO f3; simp only [Nat.zero_add, List.nil_append] at hO)
          go_ret
          exact ⟨ao, _, cap, j, rfl, by omega, hj, hD.out, by rw [HT.out]; exact hO, HN.bel.trans ((Own.empty _ _ 5 .u8).below f3 hsz)⟩
        · have HN := hBf
          have HT : Hid (text u m P j = txt m P j) := by
            show text u m P j = txt m P j
            simp [text, hu]
          have hbL : i + 1 ≤ 48 := by omega
          have HLn : Hid ((ints (txt m P j)).length = 48 - i) := by
            show (ints (txt m P j)).length = 48 - i
            rw [ints_length]; omega
          have hsz : w.heap.size ≤ wr.heap.size := HN.bel.size
          clear hBf hlen
          go_wp2_with (at_builtin; refine wpX rfl (.tmp 71) (.tmp 74) rfl w.heap.size none 0 0 [] rfl (Own.empty _ _ _ _) (some ⟨w.heap.size + 1, i, none⟩) (ints (txt m P j)) (48 - i) (48 - i) HLn.out rfl no_none HN.src (by omega) hsz ?_; intro ao cap w3 hO f3; simp only [Nat.zero_add, List.nil_append] at hO)
          go_ret
          exact ⟨ao, _, cap, j, rfl, by omega, hj, hD.out, by rw [HT.out]; exact hO, HN.bel.trans ((Own.empty _ _ 5 .u8).below f3 hsz)⟩

set_option maxRecDepth 20000 in
set_option maxHeartbeats 4000000 in
theorem app_large (P : Nat) (hP1 : 26 < P) (hP : P ≤ 65536) (u : Int) (m : Nat) (hm : IsMag u m) (w : World) : Calls Try.prog 7 #[.agg #[.string { data := #[] }, .int .i32 (P : Int), .int .i64 0], .slice none 0 0, .int .i64 u] w (AppPost w u m P) := by
  have HM : Hid (IsMag u m) := hm
  have hml := hm.le
  clear hm
  have d1 : decide ((48 : Int) < (P : Int) + 22) = true := by simp; omega
  obtain ⟨i0, hi, hz0, hz1, hz2⟩ := info_parts info5
  go_enter Try.func7, Try.ntmps7
  go_wp2_with (first | (go_at_call 13; refine (mag0 u m _ HM.out).mono ?_; rintro e w1 ⟨rfl, rfl⟩) | (at_make; refine wpList_make_full _ rfl _ _ 25 rfl w.heap.size 5 i0 (.int .u8 0) 1 Try.underlying25 hi hz0 hz1 _ _ _ _ (P + 22) rfl rfl (by omega) (by omega) (by rw [hz2]; omega) (by unfold maxLen; omega) (by simp; omega) ?_; intro w2 hown hgrow))
  have hB0 : Buf w w2 5 (w.heap.size + 1 + 1) (P + 22) (P + 22) P [] := by
    have hsz2 : ((w.alloc (Obj.cells #[Value.string { data := #[] }, Value.int IntKind.i32 (P : Int), Value.int IntKind.i64 0] 24)).alloc (Obj.cells (List.replicate 48 (Value.int .u8 0)).toArray 36)).heap.size = w.heap.size + 1 + 1 := by simp
    exact Buf.made w _ _ _ P hsz2 (by rw [World.cell?_alloc_new]; rfl) hown hgrow
  clear hown hgrow
  go_loopw [7, 11, 12] (fun v7 v11 v12 wr => ∃ (j i q : Nat), v7 = .int .u64 (q : Int) ∧ v11 = .int .i64 (i : Int) ∧ v12 = .int .i64 (j : Int) ∧ Hid (q = m / 10 ^ j) ∧ q ≤ 9223372036854775808 ∧ j ≤ P + 20 ∧ Buf w wr 5 (w.heap.size + 1 + 1) (P + 22) i P (txt m P j)) (fun _ _ v12 _ => P + 21 - (intOf v12).toNat)
  case atStart => exact ⟨0, P + 22, m, rfl, by go_num, rfl, by show m = m / 10 ^ 0; simp, hml, by omega, by rw [txt_zero]; exact hB0⟩
  case round =>
    clear hB0
    obtain ⟨j, i, q, rfl, rfl, rfl, hq, hqb, hj, hBf⟩ := hrel
    have hlen := hBf.len
    have htl := txt_le m P j
    have hk := hBf.kind
    by_cases hjP : j ≤ P
    · obtain ⟨i, rfl⟩ : ∃ k, i = k + 2 := ⟨i - 2, by omega⟩
      obtain ⟨y1, hc1⟩ := hBf.cell (i + 1) (by omega)
      have hf1 := hBf.free (i + 1)
      have hbL : i + 2 ≤ P + 22 := by omega
      by_cases hpt : j = P ∧ 0 < P
      · obtain ⟨hp1, hp2⟩ := hpt
        subst hp1
        have e1 : ((j : Int) == (j : Int)) = true := by simp
        have e2 : decide ((0 : Int) < (j : Int)) = true := by simp; omega
        have hBp : Buf w (wr.setCell ⟨w.heap.size + 1 + 1, i + 1, none⟩ (.int .u8 46)) 5 (w.heap.size + 1 + 1) (j + 22) (i + 1) j (46 :: txt m j j) := hBf.push 46
        obtain ⟨y2, hc2⟩ := hBp.cell i (by omega)
        have hf2 := hBp.free i
        have HN := hBp.push (d8 m j)
        rw [d8_int m j q hq.out, ← txt_point m j hp2] at HN
        have HQ : Hid (q / 10 = m / 10 ^ (j + 1)) := by
          show q / 10 = m / 10 ^ (j + 1)
          rw [hq.out, div_step]
        clear hBf hBp hlen htl
        go_wp2
        go_roundw
        case rel => exact ⟨j + 1, i, q / 10, by simp, by go_num, by go_num, HQ, by omega, by omega, HN⟩
        case measure => first | (simp [intOf]; done) | (simp [intOf]; omega)
      · have HN := hBf.push (d8 m j)
        rw [d8_int m j q hq.out, ← txt_plain m P j hpt] at HN
        have HQ : Hid (q / 10 = m / 10 ^ (j + 1)) := by
          show q / 10 = m / 10 ^ (j + 1)
          rw [hq.out, div_step]
        by_cases hjp : j = P
        · exfalso; omega
        · have e1 : ((j : Int) == (P : Int)) = false := by simp; omega
          clear hBf hlen htl hpt
          go_wp2
          go_roundw
          case rel => exact ⟨j + 1, i + 1, q / 10, by simp, by go_num, by go_num, HQ, by omega, by omega, HN⟩
          case measure => first | (simp [intOf]; done) | (simp [intOf]; omega)
    · by_cases hq0 : 0 < q
      · have hj18 : j ≤ 18 := div_pos_lt hml (by rw [← hq.out]; exact hq0)
        exfalso; omega
      · obtain rfl : q = 0 := by omega
        have hD : Hid (m / 10 ^ j = 0) := hq.out.symm
        by_cases hu : u < 0
        · obtain ⟨i, rfl⟩ : ∃ k, i = k + 1 := ⟨i - 1, by omega⟩
          obtain ⟨y1, hc1⟩ := hBf.cell i (by omega)
          have hf1 := hBf.free i
          have hbL : i + 1 ≤ P + 22 := by omega
          have HL : Hid (i + 1 + (txt m P j).length = P + 22) := hlen
          clear hlen
          have HN : Buf w (wr.setCell ⟨w.heap.size + 1 + 1, i, none⟩ (.int .u8 45)) 5 (w.heap.size + 1 + 1) (P + 22) i P (45 :: txt m P j) := hBf.push 45
          have HT : Hid (text u m P j = 45 :: txt m P j) := by
            show text u m P j = 45 :: txt m P j
            simp [text, hu]
          clear hBf
          have HLn : Hid ((ints (45 :: txt m P j)).length = P + 22 - i) := by
            show (ints (45 :: txt m P j)).length = P + 22 - i
            have := HL.out
            rw [ints_length]; simp; omega
          have hsz : w.heap.size ≤ (wr.setCell ⟨w.heap.size + 1 + 1, i, none⟩ (.int .u8 45)).heap.size := HN.bel.size
          go_wp2_with (at_builtin; refine wpX rfl (.tmp 71) (.tmp 74) rfl w.heap.size none 0 0 [] rfl (Own.empty _ _ _ _) (some ⟨w.heap.size + 1 + 1, i, none⟩) (ints (45 :: txt m P j)) (P + 22 - i) (P + 22 - i) HLn.out rfl no_none HN.src (by omega) hsz ?_; intro ao cap w3 hO f3; simp only [Nat.zero_add, List.nil_append] at hO)
          go_ret
          exact ⟨ao, _, cap, j, rfl, by omega, hj, hD.out, by rw [HT.out]; exact hO, HN.bel.trans ((Own.empty _ _ 5 .u8).below f3 hsz)⟩
        · have HN := hBf
          have HT : Hid (text u m P j = txt m P j) := by
            show text u m P j = txt m P j
            simp [text, hu]
          have hbL : i + 1 ≤ P + 22 := by omega
          have HLn : Hid ((ints (txt m P j)).length = P + 22 - i) := by
            show (ints (txt m P j)).length = P + 22 - i
            rw [ints_length]; omega
          have hsz : w.heap.size ≤ wr.heap.size := HN.bel.size
          clear hBf hlen
          go_wp2_with (at_builtin; refine wpX rfl (.tmp 71) (.tmp 74) rfl w.heap.size none 0 0 [] rfl (Own.empty _ _ _ _) (some ⟨w.heap.size + 1 + 1, i, none⟩) (ints (txt m P j)) (P + 22 - i) (P + 22 - i) HLn.out rfl no_none HN.src (by omega) hsz ?_; intro ao cap w3 hO f3; simp only [Nat.zero_add, List.nil_append] at hO)
          go_ret
          exact ⟨ao, _, cap, j, rfl, by omega, hj, hD.out, by rw [HT.out]; exact hO, HN.bel.trans ((Own.empty _ _ 5 .u8).below f3 hsz)⟩
end Go.Proofs.Qxb6600163a
