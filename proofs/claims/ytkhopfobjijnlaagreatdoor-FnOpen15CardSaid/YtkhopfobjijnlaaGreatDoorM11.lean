/- The call's own rows of numbers, as the specification's functions make them; spec.Small, spec.trim. spec.Cmp and spec.Has on numbers without a zero at the top. spec.Has at the lowest bit, spec.trim. -/
import Derived.Test.YtkhopfobjijnlaaGreatDoorM10
set_option linter.all false
namespace Go.Proofs.YtkhopfobjijnlaaGreatDoor
open Go.RowKit

/-- A slice of these numbers, each in one cell. -/
def SliceK (k : Nat → Value) (w : World) (v : Value) (L : List Nat) : Prop :=
  (v = .slice none 0 0 ∧ L = []) ∨ ∃ b o c, v = sl b o L.length c ∧ L.length ≤ c ∧ ∀ i, i < L.length → w.cell? ⟨b, o + i, none⟩ = some (k (nth L i))

theorem SliceK.mod {k : Nat → Value} {w w' : World} {S : List Nat} {v : Value} {L : List Nat} (h : SliceK k w v L) (m : Mod S w w') (hS : ∀ x, x ∈ S → Apart v x) : SliceK k w' v L := by
  rcases h with ⟨rfl, rfl⟩ | ⟨b, o, c, rfl, hc, hb⟩
  · exact .inl ⟨rfl, rfl⟩
  · refine .inr ⟨b, o, c, rfl, hc, fun i hi => ?_⟩
    rw [← hb i hi]
    exact World.cell?_of_block (m.block b (block_lt_of_cell (hb i hi)) (fun hx => hS b hx _ _ _ _ rfl rfl))
theorem SliceK.lit {k : Nat → Value} {w : World} {v : Value} {L : List Nat} (h : SliceK k w v L) : ∃ a c, v = .slice a L.length c := by
  rcases h with ⟨rfl, rfl⟩ | ⟨b, o, c, rfl, hc, hb⟩
  · exact ⟨_, _, rfl⟩
  · exact ⟨_, _, rfl⟩

/-- The call's own slice: it owns its row, of the type T. -/
def Own (k : Nat → Value) (T : Nat) (w : World) (base : Nat) (v : Value) (L : List Nat) : Prop := w.ownsRow base T 1 v L.length (L.map k)

theorem Own.blk {k : Nat → Value} {T : Nat} {w : World} {base : Nat} {v : Value} {L : List Nat} (h : Own k T w base v L) :
    (v = .slice none 0 0 ∧ L = []) ∨ ∃ g cap rest, v = sl g 0 L.length cap ∧ base ≤ g ∧ Blk w g T (L.map k ++ rest) ∧ L.length + rest.length = cap ∧ cap ≤ maxLen := by
  obtain ⟨h1, h2⟩ := h
  rcases h2 with ⟨rfl, h0⟩ | ⟨g, cap, cur, rfl, hb, hg, hc, hm, hs, ht⟩
  · exact .inl ⟨rfl, List.eq_nil_of_length_eq_zero h0⟩
  · refine .inr ⟨g, cap, cur.toList.drop L.length, rfl, hb, ?_, ?_, hm⟩
    · unfold Blk
      rw [← ht, Nat.mul_one, List.take_append_drop]
      simpa using hg
    · simp only [List.length_drop, Array.length_toList]; omega
theorem Own.ofBlk {k : Nat → Value} {T : Nat} {w : World} {base g cap : Nat} {L : List Nat} {rest : List Value} (hb : base ≤ g) (h : Blk w g T (L.map k ++ rest)) (hc : L.length + rest.length = cap) (hm : cap ≤ maxLen) :
    Own k T w base (sl g 0 L.length cap) L := by
  refine ⟨by simp, .inr ⟨g, cap, (L.map k ++ rest).toArray, rfl, hb, h, by omega, hm, by simp; omega, ?_⟩⟩
  simp only [Nat.mul_one]
  rw [List.take_append_of_le_length (by simp), List.take_of_length_le (by simp)]
theorem Own.lt {k : Nat → Value} {T : Nat} {w : World} {base : Nat} {v : Value} {L : List Nat} (h : Own k T w base v L) : ∀ b o n c, v = sl b o n c → base ≤ b ∧ b < w.heap.size := by
  intro b o n c e
  exact World.ownsRow.lt h b (by rw [e]; rfl)
theorem Own.slice {k : Nat → Value} {T : Nat} {w : World} {base : Nat} {v : Value} {L : List Nat} (h : Own k T w base v L) : SliceK k w v L := by
  rcases h.blk with ⟨rfl, rfl⟩ | ⟨g, cap, rest, rfl, hb, hg, hc, hm⟩
  · exact .inl ⟨rfl, rfl⟩
  · refine .inr ⟨g, 0, cap, rfl, by omega, fun i hi => ?_⟩
    rw [Nat.zero_add, hg.cell, List.getElem?_append_left (by simpa using hi), map_get hi]
theorem Own.mod {k : Nat → Value} {T : Nat} {w w' : World} {base : Nat} {v : Value} {L : List Nat} {S : List Nat} (h : Own k T w base v L) (m : Mod S w w') (hS : ∀ x, x ∈ S → Apart v x) : Own k T w' base v L := by
  rcases h.blk with ⟨rfl, rfl⟩ | ⟨g, cap, rest, rfl, hb, hg, hc, hm⟩
  · exact ⟨rfl, .inl ⟨rfl, rfl⟩⟩
  · exact Own.ofBlk hb (hg.mod m (fun hx => hS g hx _ _ _ _ rfl rfl)) hc hm
theorem Own.nil (k : Nat → Value) (T : Nat) (w : World) (base : Nat) : Own k T w base (.slice none 0 0) [] := ⟨rfl, .inl ⟨rfl, rfl⟩⟩

/-- append(v, x) where v is the call's own and x lies in a row by itself: the law for the walk. -/
theorem wpl_push {ops : Array Oper} {rest : List Oper} {o : Oper} {a : Act} {Q : Exit → Act → World → Prop} {w : World} (hgd : o.guard = none) (s x : Operand) (t : TypeId)
    (ho : o.op = .call { callee := .builtin .append, args := #[s, x], argTypes := #[t, t] }) (v : Value) (b cap : Nat) (hs : a.eval s = v) (hx : a.eval x = sl b 0 1 cap)
    (k : Nat → Value) {e B : Nat} {z : Value} (h1 : z.cells = #[z]) (ht : Tryz.prog.underlying t = some (.slice e)) (hi : (Tryz.prog.info? e).map (fun i => (i.zero, i.size, i.bytes)) = some (some z, 1, B)) (hB : B ≤ 16) (hk : ∀ n, (k n).oneCell' = true)
    {w0 : World} {L : List Nat} {u : Nat} (hw : Mod [] w0 w) (hv : Own k e w w0.heap.size v L) (hc : w.cell? ⟨b, 0, none⟩ = some (k u)) (hn : L.length < 900000)
    (h : ∀ v' w', Own k e w' w0.heap.size v' (L ++ [u]) → Mod [] w0 w' → wpList Tryz.prog ops Q rest (a.put o.dst v') w') : wpList Tryz.prog ops Q (o :: rest) a w := by
  obtain ⟨v', w', hr, hown, hgr⟩ := run_app h1 ht hi hB w0.heap.size v L.length (L.map k) w hv ⟨b, 0, none⟩ cap [k u] 1 rfl
    (by
      intro j y hj
      have hj0 : j = 0 := by
        have hl := (List.getElem?_eq_some_iff.1 hj).1
        rw [List.length_singleton] at hl
        omega
      subst hj0
      simp at hj
      subst hj
      rw [add_addr]
      exact hc) (by intro y hy; simp at hy; rw [hy]; exact hk u) (by omega) hw.size o.type
  refine wpl_run2 hgd s x t ho v _ hs hx hr (h v' w' ?_ ?_)
  · unfold Own
    simpa using hown
  · refine Mod.trans (U := []) hw (Mod.grown (S := v.ownBlock.toList) hgr (by intro kk hk _; simp [hk])) (by simp) ?_
    intro y hy hlt
    simp at hy
    have := (World.ownsRow.lt hv y hy).1
    omega

/-- The number of digits of 16 bits, the lowest first. -/
def valS : List Nat → Nat
  | [] => 0
  | x :: l => x + 65536 * valS l
def Digits (L : List Nat) : Prop := ∀ i, nth L i < 65536

theorem valS_append (a b : List Nat) : valS (a ++ b) = valS a + 65536 ^ a.length * valS b := by
  induction a with
  | nil => simp [valS]
  | cons x l ih => simp only [List.cons_append, valS, ih, List.length_cons, Nat.pow_succ, Nat.mul_add]; rw [Nat.add_assoc, ← Nat.mul_assoc, Nat.mul_comm 65536 (65536 ^ l.length)]

theorem Digits.push {L : List Nat} (h : Digits L) {u : Nat} (hu : u < 65536) : Digits (L ++ [u]) := by
  intro i
  rcases Nat.lt_or_ge i L.length with hi | hi
  · rw [nth_append_left hi]; exact h i
  · rw [nth_append_right hi]
    rcases Nat.eq_zero_or_pos (i - L.length) with h0 | h0
    · rw [h0]; exact hu
    · rw [nth_ge (by rw [List.length_singleton]; exact h0)]; omega
/-- No zero at the top. -/
structure Canon (L : List Nat) : Prop where
  digits : Digits L
  top : L.length ≠ 0 → nth L (L.length - 1) ≠ 0

structure SmallAt (n m : Nat) (L : List Nat) : Prop where
  digits : Digits L
  val : valS L + 65536 ^ L.length * m = n
  top : m = 0 → L.length ≠ 0 → nth L (L.length - 1) ≠ 0
theorem SmallAt.next {n m : Nat} {L : List Nat} (h : SmallAt n m L) (h0 : m ≠ 0) : SmallAt n (m / 65536) (L ++ [m % 65536]) := by
  refine ⟨h.digits.push (Nat.mod_lt _ (by omega)), ?_, ?_⟩
  · have h1 := h.val
    have h2 := Nat.mod_add_div m 65536
    rw [valS_append, List.length_append, List.length_singleton, Nat.pow_succ]
    simp only [valS, Nat.mul_zero, Nat.add_zero]
    rw [Nat.add_assoc, Nat.mul_assoc, ← Nat.mul_add, h2]
    exact h1
  · intro hm _
    rw [List.length_append, List.length_singleton, Nat.add_sub_cancel, nth_append_right (Nat.le_refl _), Nat.sub_self]
    show m % 65536 ≠ 0
    omega

theorem info_nat_cells : (Tryz.prog.info? 3).map (fun i => (i.zero, i.size, i.bytes)) = some (some (.int .i64 0), 1, 8) := by kernel_rfl

set_option maxRecDepth 100000 in
theorem c_Small (n : Nat) (hn : n < 2 ^ 62) (w : World) : Calls Tryz.prog 25 #[i64 n] w fun e w' => ∃ v L, e = .returned v ∧ Mod [] w w' ∧ Own i64 3 w' w.heap.size v L ∧ Canon L ∧ valS L = n := by
  have hown0 : Own i64 3 (w.alloc (.cells #[] 3)) w.heap.size (sl w.heap.size 0 0 0) [] := Own.ofBlk (rest := []) (Nat.le_refl _) (Blk.new w _ []) rfl (by simp [maxLen])
  have HN := hide hn
  clear hn
  go_enter Tryz.func25, Tryz.ntmps25
  go_wp2_with fail
  go_loopw [0, 3] (fun a v wr => ∃ (m : Nat) (L : List Nat) (vv : Value), a = i64 m ∧ vv = v ∧ Mod [] w wr ∧ Own i64 3 wr w.heap.size vv L ∧ Hid (SmallAt n m L)) (fun a _ _ => (intOf a).toNat)
  case atStart => exact ⟨n, [], _, rfl, rfl, (Mod.refl _ _).alloc _, hown0, hide ⟨fun i => by rw [nth_ge (by simp)]; omega, by simp [valS], by simp⟩⟩
  case round =>
    obtain ⟨m, L, vv, rfl, rfl, hm, hv, hS⟩ := hrel
    by_cases h0 : m = 0
    · subst h0
      go_wp2_with fail
      go_ret
      have s1 := hS.out
      exact ⟨vv, L, rfl, hm, hv, ⟨s1.digits, s1.top rfl⟩, by have := s1.val; simpa using this⟩
    · have hpos : (0 : Int) < (m : Int) := by omega
      have hS2 := hide (hS.out.next h0)
      have hlen : L.length < 900000 := by
        have h1 := hS.out.val
        have h2 : 65536 ^ L.length * 1 ≤ 65536 ^ L.length * m := Nat.mul_le_mul_left _ (by omega)
        have h3 := HN.out
        rcases Nat.lt_or_ge L.length 4 with h4 | h4
        · omega
        · have h5 : 65536 ^ 4 ≤ 65536 ^ L.length := Nat.pow_le_pow_right (by omega) h4
          omega
      have hlt : m / 65536 < m := by omega
      have hma : Mod [] w (wr.alloc (.cells #[.int .i64 ((m : Int) % 65536)] 3)) := hm.alloc _
      have hva : Own i64 3 (wr.alloc (.cells #[.int .i64 ((m : Int) % 65536)] 3)) w.heap.size vv L := hv.mod ((Mod.refl [] _).alloc _) (by simp)
      have hca : (wr.alloc (.cells #[.int .i64 ((m : Int) % 65536)] 3)).cell? ⟨wr.heap.size, 0, none⟩ = some (i64 (m % 65536)) := by
        have h := Blk.new wr 3 [.int .i64 ((m : Int) % 65536)]
        have h2 := blk_cell0 h
        rw [h2]
        simp [i64]
      have HLT := hide hlt
      have hmn : m < 2 ^ 62 := by
        have h1 := hS.out.val
        have h2 : 1 * m ≤ 65536 ^ L.length * m := Nat.mul_le_mul_right _ (Nat.pow_pos (by omega))
        have h3 := HN.out
        omega
      have ew : IntKind.i64.wrap ((m : Int) / 65536) = ((m / 65536 : Nat) : Int) := by rw [IntKind.wrap_i64]; omega
      clear hlt h0 hmn
      go_wp2_with (at_builtin; refine wpl_push rfl _ _ _ rfl vv wr.heap.size 1 rfl rfl i64 rfl Tryz.underlying25 info_int (by omega) (fun _ => rfl) hma hva hca hlen ?_)
      intro v' w' hv' hm'
      go_wp2_with fail
      go_roundw
      case rel => exact ⟨m / 65536, _, v', by first | rfl | (simp [i64]; done), rfl, hm', hv', hS2⟩
      case measure => have := HLT.out; simp [intOf]; omega
end Go.Proofs.YtkhopfobjijnlaaGreatDoor
namespace Go.Proofs.YtkhopfobjijnlaaGreatDoor
open Go.RowKit

theorem valS_split (L : List Nat) (i : Nat) (h : i ≤ L.length) : valS L = valS (L.take i) + 65536 ^ i * valS (L.drop i) := by
  have h1 := valS_append (L.take i) (L.drop i)
  rw [List.take_append_drop, List.length_take, Nat.min_eq_left h] at h1
  exact h1
theorem valS_take_succ {L : List Nat} {i : Nat} (h : i < L.length) : valS (L.take (i + 1)) = valS (L.take i) + 65536 ^ i * nth L i := by
  rw [List.take_succ_eq_append_getElem h, valS_append, List.length_take, Nat.min_eq_left (by omega), nth_eq L i h]
  simp [valS]
theorem Digits.take {L : List Nat} (h : Digits L) (i : Nat) : Digits (L.take i) := by
  intro j
  have := h j
  unfold nth at *
  by_cases hj : j < i
  · simpa [List.getElem?_take, hj] using this
  · simp [List.getElem?_take, hj]
theorem Digits.tail {x : Nat} {l : List Nat} (h : Digits (x :: l)) : x < 65536 ∧ Digits l := ⟨h 0, fun i => h (i + 1)⟩
theorem valS_lt {L : List Nat} (h : Digits L) : valS L < 65536 ^ L.length := by
  induction L with
  | nil => simp [valS]
  | cons x l ih =>
    have h2 := ih h.tail.2
    have h1 := h.tail.1
    simp only [valS, List.length_cons, Nat.pow_succ]
    omega
theorem valS_ge {L : List Nat} (h : Canon L) (h0 : L.length ≠ 0) : 65536 ^ (L.length - 1) ≤ valS L := by
  have h1 := h.top h0
  have h2 := valS_take_succ (L := L) (i := L.length - 1) (by omega)
  rw [show L.length - 1 + 1 = L.length by omega, List.take_length] at h2
  rw [h2]
  have h3 : 65536 ^ (L.length - 1) * 1 ≤ 65536 ^ (L.length - 1) * nth L (L.length - 1) := Nat.mul_le_mul_left _ (by omega)
  omega
theorem valS_shorter {A B : List Nat} (hA : Digits A) (hB : Canon B) (h : A.length < B.length) : valS A < valS B := by
  have h1 := valS_lt hA
  have h2 := valS_ge hB (by omega)
  have h3 : 65536 ^ A.length ≤ 65536 ^ (B.length - 1) := Nat.pow_le_pow_right (by omega) (by omega)
  omega
theorem drop_eq {A B : List Nat} {j : Nat} (hl : A.length = B.length) (h : ∀ i, j ≤ i → i < A.length → nth A i = nth B i) : A.drop j = B.drop j := by
  apply nth_ext
  · simp [hl]
  · intro i hi
    simp at hi
    have := h (j + i) (by omega) (by omega)
    simpa [nth] using this
theorem valS_less {A B : List Nat} {j : Nat} (hA : Digits A) (hl : A.length = B.length) (hj : j < A.length) (h : ∀ i, j + 1 ≤ i → i < A.length → nth A i = nth B i) (hlt : nth A j < nth B j) : valS A < valS B := by
  have h1 := valS_split A (j + 1) (by omega)
  have h2 := valS_split B (j + 1) (by omega)
  rw [drop_eq hl h, valS_take_succ hj] at h1
  rw [valS_take_succ (by omega)] at h2
  have h3 := valS_lt (hA.take j)
  rw [List.length_take, Nat.min_eq_left (by omega)] at h3
  have h4 : 65536 ^ j * (nth A j + 1) ≤ 65536 ^ j * nth B j := Nat.mul_le_mul_left _ hlt
  rw [Nat.mul_add] at h4
  omega

/-- How two numbers compare. -/
def cmpV (a b : Nat) : Int := if a < b then -1 else if b < a then 1 else 0

theorem SliceK.at {k : Nat → Value} {w : World} {a : Option Addr} {n c : Nat} {L : List Nat} (h : SliceK k w (.slice a n c) L) (h0 : 0 < L.length) :
    ∃ b o, a = some ⟨b, o, none⟩ ∧ L.length ≤ c ∧ ∀ i, i < L.length → w.cell? ⟨b, o + i, none⟩ = some (k (nth L i)) := by
  rcases h with ⟨_, h2⟩ | ⟨b, o, c', h1, h2, h3⟩
  · rw [h2] at h0; simp at h0
  · simp only [Value.slice.injEq] at h1
    obtain ⟨rfl, _, rfl⟩ := h1
    exact ⟨b, o, rfl, h2, h3⟩

set_option maxRecDepth 100000 in
set_option maxHeartbeats 1000000 in
theorem c_Cmp (va vb : Value) (A B : List Nat) (w : World) (ha : SliceK i64 w va A) (hb : SliceK i64 w vb B) (cA : Canon A) (cB : Canon B) (hs : A.length ≤ 1000000) :
    Calls Tryz.prog 35 #[va, vb] w fun e w' => e = .returned (.int .i64 (cmpV (valS A) (valS B))) ∧ Mod [] w w' := by
  obtain ⟨aa, ca, rfl⟩ := ha.lit
  obtain ⟨ab, cb, rfl⟩ := hb.lit
  rcases Nat.lt_trichotomy A.length B.length with hl | hl | hl
  · have hv := hide (show cmpV (valS A) (valS B) = -1 by unfold cmpV; rw [if_pos (valS_shorter cA.digits cB hl)])
    clear hs
    go_enter Tryz.func35, Tryz.ntmps35
    go_wp2_with fail
    go_ret
    exact ⟨by rw [hv.out]; rfl, Mod.refl _ _⟩
  · have HS := hide hs
    rw [← hl] at hb ⊢
    have HL := hide hl
    clear hl
    go_enter Tryz.func35, Tryz.ntmps35
    go_wp2_with fail
    go_loopw [5] (fun i wr => ∃ j : Nat, j ≤ A.length ∧ i = .int .i64 ((j : Int) - 1) ∧ Hid (∀ i, j ≤ i → i < A.length → nth A i = nth B i) ∧ Mod [] w wr) (fun i _ => (intOf i + 1).toNat)
    case atStart =>
      exact ⟨A.length, Nat.le_refl _, by first | rfl | go_num, hide (fun i h1 h2 => by omega), Mod.refl _ _⟩
    case round =>
      obtain ⟨j, hj, rfl, he, hm⟩ := hrel
      cases j with
      | zero =>
        have hv := hide (show cmpV (valS A) (valS B) = 0 by
          have hAB : A = B := nth_ext HL.out (fun i hi => he.out i (by omega) hi)
          rw [hAB]; unfold cmpV; rw [if_neg (by omega), if_neg (by omega)])
        go_wp2_with fail
        go_ret
        exact ⟨by rw [hv.out]; rfl, hm⟩
      | succ j =>
        obtain ⟨b1, o1, rfl, _, hcA⟩ := (ha.mod hm (by simp)).at (by omega)
        have hb2 := hb
        rw [HL.out] at hb2
        obtain ⟨b2, o2, rfl, _, hcB⟩ := (hb2.mod hm (by simp)).at (by have := HL.out; omega)
        have h1 := hcA j (by omega)
        have h2 := hcB j (by have := HL.out; omega)
        have e1 : Hid (((j + 1 : Nat) : Int) - 1 = (j : Int)) := hide (by omega)
        rw [e1.out]
        clear hcA hcB hb2
        rcases Nat.lt_trichotomy (nth A j) (nth B j) with hc | hc | hc
        · have hv := hide (show cmpV (valS A) (valS B) = -1 by unfold cmpV; rw [if_pos (valS_less cA.digits HL.out (by omega) he.out hc)])
          have hci : (nth A j : Int) < (nth B j : Int) := by omega
          go_wp2_with fail
          go_quiet (fail)
          go_wp2_with fail
          go_ret
          exact ⟨by rw [hv.out]; rfl, hm.drewN _⟩
        · have he2 : Hid (∀ i, j ≤ i → i < A.length → nth A i = nth B i) := hide (fun i h1 h2 => by
            rcases Nat.eq_or_lt_of_le h1 with h | h
            · rw [← h]; exact hc
            · exact he.out i h h2)
          rw [← hc] at h2
          clear hc he
          go_wp2_with fail
          go_quiet (fail)
          go_wp2_with fail
          go_quiet (fail)
          go_wp2_with fail
          go_roundw
          case rel => exact ⟨j, by omega, by go_num, he2, by first | exact hm.drewN _ | exact (hm.drewN _).drewN _⟩
          case measure => simp [intOf]
        · have hv := hide (show cmpV (valS A) (valS B) = 1 by
            have := valS_less cB.digits HL.out.symm (by have := HL.out; omega) (fun i h1 h2 => (he.out i h1 (by have := HL.out; omega)).symm) hc
            unfold cmpV; rw [if_neg (by omega), if_pos this])
          have hci : ¬ (nth A j : Int) < (nth B j : Int) := by omega
          have hci2 : (nth B j : Int) < (nth A j : Int) := by omega
          go_wp2_with fail
          go_quiet (fail)
          go_wp2_with fail
          go_quiet (fail)
          go_wp2_with fail
          go_ret
          exact ⟨by rw [hv.out]; rfl, by first | exact hm.drewN _ | exact (hm.drewN _).drewN _⟩
  · have hv := hide (show cmpV (valS A) (valS B) = 1 by have := valS_shorter cB.digits cA hl; unfold cmpV; rw [if_neg (by omega), if_pos this])
    have hn : ¬ A.length < B.length := by omega
    clear hs
    go_enter Tryz.func35, Tryz.ntmps35
    go_wp2_with fail
    go_ret
    exact ⟨by rw [hv.out]; rfl, Mod.refl _ _⟩
end Go.Proofs.YtkhopfobjijnlaaGreatDoor
namespace Go.Proofs.YtkhopfobjijnlaaGreatDoor
open Go.RowKit

theorem valS_parity {L : List Nat} : nth L 0 % 2 = valS L % 2 := by
  cases L with
  | nil => rfl
  | cons a l => simp only [nth, valS, List.getD_cons_zero]; omega

set_option maxRecDepth 100000 in
theorem c_Has0 (va : Value) (A : List Nat) (w : World) (ha : SliceK i64 w va A) (hd : Digits A) :
    Calls Tryz.prog 52 #[va, .int .i64 0] w fun e w' => e = .returned (.bool (decide (valS A % 2 = 1))) ∧ Mod [] w w' := by
  obtain ⟨a, c, rfl⟩ := ha.lit
  rcases Nat.eq_zero_or_pos A.length with h0 | h0
  · obtain rfl := List.eq_nil_of_length_eq_zero h0
    clear h0
    go_enter Tryz.func52, Tryz.ntmps52
    go_wp2_with fail
    go_ret
    exact ⟨rfl, Mod.refl _ _⟩
  · obtain ⟨b, o, rfl, _, hc⟩ := ha.at h0
    have h1 := hc 0 h0
    rw [Nat.add_zero] at h1
    have hlt := hd 0
    have hand := and_one_i64 (n := nth A 0) (by omega)
    have hp := hide (valS_parity (L := A))
    have hpos : (0 : Int) < (A.length : Int) := by omega
    go_enter Tryz.func52, Tryz.ntmps52
    go_wp2_with fail
    go_ret
    refine ⟨?_, Mod.refl _ _⟩
    rw [← hp.out]
    show Ending.returned (.bool (((nth A 0 : Nat) : Int) % 2 == 1)) = _
    congr 2
    rcases Nat.mod_two_eq_zero_or_one (nth A 0) with h | h
    · rw [h, show ((nth A 0 : Nat) : Int) % 2 = 0 by omega]; rfl
    · rw [h, show ((nth A 0 : Nat) : Int) % 2 = 1 by omega]; rfl

theorem trimN_valS {L : List Nat} : ∀ k, k ≤ L.length → valS (L.take (trimN L k)) = valS (L.take k) := by
  intro k
  induction k with
  | zero => intro _; rfl
  | succ k ih =>
    intro hk
    simp only [trimN]
    split
    · rename_i h
      rw [ih (by omega), valS_take_succ (by omega), h, Nat.mul_zero, Nat.add_zero]
    · rfl
theorem trim_canon {L : List Nat} (h : Digits L) : Canon (L.take (trimN L L.length)) ∧ valS (L.take (trimN L L.length)) = valS L := by
  have hle := trimN_le L L.length
  have hl : (L.take (trimN L L.length)).length = trimN L L.length := by simp; omega
  refine ⟨⟨h.take _, ?_⟩, ?_⟩
  · rw [hl]
    intro h0
    have := trimN_top L.length h0
    have e : nth (L.take (trimN L L.length)) (trimN L L.length - 1) = nth L (trimN L L.length - 1) := by
      simp [nth, show trimN L L.length - 1 < trimN L L.length by omega]
    rw [e]
    exact this
  · rw [trimN_valS L.length (Nat.le_refl _), List.take_length]

set_option maxRecDepth 100000 in
set_option maxHeartbeats 1000000 in
theorem c_trimS (v : Value) (L : List Nat) (w : World) (h : SliceK i64 w v L) (hd : Digits L) (hbig : L.length ≤ 1000000) :
    Calls Tryz.prog 44 #[v] w fun e w' => ∃ v' L', e = .returned v' ∧ Mod [] w w' ∧ SliceK i64 w' v' L' ∧ Canon L' ∧ valS L' = valS L ∧ L'.length ≤ L.length := by
  obtain ⟨a, c, rfl⟩ := h.lit
  have hfin := hide (trim_canon hd)
  have hle := hide (trimN_le L L.length)
  have htake : ∀ k wr, k ≤ L.length → Mod [] w wr → SliceK i64 wr (.slice a k c) (L.take k) := by
    intro k wr hk hm
    rcases h.mod hm (by simp) with ⟨h1, h2⟩ | ⟨b, o, c', h1, h2, h3⟩
    · simp only [Value.slice.injEq] at h1
      obtain ⟨rfl, _, rfl⟩ := h1
      rw [h2] at hk ⊢
      obtain rfl : k = 0 := by simpa using hk
      exact .inl ⟨rfl, rfl⟩
    · simp only [Value.slice.injEq] at h1
      obtain ⟨rfl, _, rfl⟩ := h1
      have e : (L.take k).length = k := by simp; omega
      refine .inr ⟨b, o, c, by rw [e], by omega, fun i hi => ?_⟩
      rw [e] at hi
      have en : nth (L.take k) i = nth L i := by simp [nth, hi]
      rw [h3 i (by omega), en]
  go_enter Tryz.func44, Tryz.ntmps44
  go_wp2_with fail
  go_loopw [0] (fun v wr => ∃ k : Nat, k ≤ L.length ∧ v = .slice a k c ∧ Hid (trimN L k = trimN L L.length) ∧ Mod [] w wr) (fun v _ => match v with | .slice _ n _ => n | _ => 0)
  case atStart => exact ⟨L.length, Nat.le_refl _, rfl, hide rfl, Mod.refl _ _⟩
  case round =>
    obtain ⟨k, hk, rfl, ht, hm⟩ := hrel
    cases k with
    | zero =>
      have hs := htake 0 wr hk hm
      have e0 : 0 = trimN L L.length := ht.out
      clear htake
      go_wp2_with fail
      go_ret
      rw [e0] at hs
      refine ⟨_, _, ?_, hm, hs, hfin.out.1, hfin.out.2, by rw [List.length_take]; exact Nat.min_le_right _ _⟩
      rw [← e0]
      rfl
    | succ k =>
      obtain ⟨b, o, rfl, hcc, hc⟩ := (h.mod hm (by simp)).at (by omega)
      have h1 := hc k (by omega)
      by_cases h0 : nth L k = 0
      · have ht2 : Hid (trimN L k = trimN L L.length) := hide (by have := ht.out; simp only [trimN] at this; rw [if_pos h0] at this; exact this)
        rw [h0] at h1
        clear htake hc h0 ht
        have e1 : ((k + 1 : Nat) : Int) - 1 = (k : Int) := by omega
        go_wp2_with fail
        exact ⟨⟨k, by omega, rfl, ht2, hm⟩, Nat.lt_succ_self k⟩
      · have hs := htake (k + 1) wr hk hm
        have e0 : k + 1 = trimN L L.length := by have := ht.out; simp only [trimN] at this; rw [if_neg h0] at this; exact this
        have E0 := hide e0
        have e1 : ((k + 1 : Nat) : Int) - 1 = (k : Int) := by omega
        have hne : ((nth L k : Int) == 0) = false := by simpa using h0
        clear htake hc ht e0
        go_wp2_with fail
        go_ret
        rw [E0.out] at hs
        refine ⟨_, _, ?_, hm, hs, hfin.out.1, hfin.out.2, by rw [List.length_take]; exact Nat.min_le_right _ _⟩
        rw [← E0.out]
        rfl
end Go.Proofs.YtkhopfobjijnlaaGreatDoor
