/- Contracts of bigmod's expand and ExpandFor; the head of a Modulus. Rows of words: what bigmod's loops compute, as plain functions, and what they come to. No condition. -/
import Derived.Test.YtkhopfobjijnlaaGreatDoorM02
import Derived.Test.YtkhopfobjijnlaaGreatDoorM01
set_option linter.all false
namespace Go.Proofs.YtkhopfobjijnlaaGreatDoor
open Go.RowKit

/-- Block m is a Modulus: its number's block, whether it is odd, its word, its R*R. -/
abbrev MHead (w : World) (m x : Nat) (odd : Bool) (k : Nat) (r : Value) : Prop := Blk w m 107 [ptr x, .bool odd, u64 k, r]
theorem MHead.c0 {w : World} {m x k : Nat} {odd : Bool} {r : Value} (h : MHead w m x odd k r) : w.cell? ⟨m, 0, none⟩ = some (ptr x) := by rw [Blk.cell h]; rfl
theorem MHead.c1 {w : World} {m x k : Nat} {odd : Bool} {r : Value} (h : MHead w m x odd k r) : w.cell? ⟨m, 1, none⟩ = some (.bool odd) := by rw [Blk.cell h]; rfl
theorem MHead.c2 {w : World} {m x k : Nat} {odd : Bool} {r : Value} (h : MHead w m x odd k r) : w.cell? ⟨m, 2, none⟩ = some (u64 k) := by rw [Blk.cell h]; rfl
theorem MHead.c3 {w : World} {m x k : Nat} {odd : Bool} {r : Value} (h : MHead w m x odd k r) : w.cell? ⟨m, 3, none⟩ = some r := by rw [Blk.cell h]; rfl

/-- L with zeros behind it, n words in all. -/
def padTo (L : List Nat) (n : Nat) : List Nat := L ++ List.replicate (n - L.length) 0
theorem padTo_length {L : List Nat} {n : Nat} (h : L.length ≤ n) : (padTo L n).length = n := by simp [padTo]; omega
theorem padTo_val (L : List Nat) (n : Nat) : val (padTo L n) = val L := by simp [padTo, val_append, val_replicate0]
theorem padTo_words {L : List Nat} (h : Words L) (n : Nat) : Words (padTo L n) := h.append (Words.replicate0 _)
theorem padTo_nil (n : Nat) : padTo [] n = List.replicate n 0 := by simp [padTo]

theorem clear_tail {w : World} {x p : Nat} {L R : List Nat} (h : NatIs w x p L R) (n : Nat) (h2 : n ≤ L.length + R.length) (c : Nat) :
    ∃ w1, (∀ ty, (Builtin.clear_ #[97] ty #[sl p L.length (n - L.length) c]).run Tryz.prog w = .ok (.tuple #[]) w1) ∧ Mod [p] w w1 ∧
      Blk w1 x 126 [sl p 0 L.length (L.length + R.length)] ∧ Blk w1 p 98 ((padTo L n ++ R.drop (n - L.length)).map u64) := by
  have hs : splice' ((L ++ R).map u64) (List.replicate (n - L.length) (.int .u64 0)) L.length = (padTo L n ++ R.drop (n - L.length)).map u64 := by
    have e : List.replicate (n - L.length) (Value.int .u64 0) = (List.replicate (n - L.length) 0).map u64 := by simp [u64]
    rw [e, splice_map]
    congr 1
    rw [List.take_left' rfl, List.length_replicate, List.drop_append]
    simp [padTo]
  refine ⟨_, fun ty => run_clear_row (ty := ty) (z := .int .u64 0) rfl rfl Tryz.underlying97 zero_uint h.row L.length (n - L.length) c (by simp; omega), (Mod.refl _ w).setRow _ _ (by simp),
    h.head.setRow_other _ _ h.ne, ?_⟩
  rw [hs]
  exact h.row.setRow _

theorem clear_none {w : World} (a : Option Addr) (c : Nat) (ty : Nat) : (Builtin.clear_ #[97] ty #[.slice a 0 c]).run Tryz.prog w = .ok (.tuple #[]) w := by
  cases a <;> simp [Builtin.clear_, run_underlying Tryz.underlying97]

/-- The head of a Nat turned to another row or length. -/
theorem NatIs.reslice {w : World} {x p : Nat} {L R : List Nat} (hx : Blk w x 126 [sl p 0 L.length (L.length + R.length)]) {L' R' : List Nat} {p' : Nat}
    (hp : Blk w p' 98 ((L' ++ R').map u64)) (hne : p' ≠ x) {c : Nat} (hc : c = L'.length + R'.length) (hcap : c ≤ 100000) {n : Nat} (hn : n = L'.length) :
    NatIs (w.setCell ⟨x, 0, none⟩ (sl p' 0 n c)) x p' L' R' := by
  subst hc hn
  refine ⟨?_, hp.setCell_other _ _ hne, hcap⟩
  have := hx.setCell 0 (sl p' 0 L'.length (L'.length + R'.length))
  simpa using this

set_option maxRecDepth 100000 in
set_option maxHeartbeats 1600000 in
theorem c_expand_room (x p n : Nat) (L R : List Nat) (w : World) (h : NatIs w x p L R) (h1 : L.length ≤ n) (h2 : n ≤ L.length + R.length) (hr : 0 < R.length) :
    Calls Tryz.prog 99 #[ptr x, i64 n] w fun e w' =>
      ∃ p' R', e = .returned (ptr x) ∧ Mod [x, p] w w' ∧ NatIs w' x p' (padTo L n) R' ∧ Kept w p p' := by
  have hc := h.cell
  have hcap := h.cap
  have g1 : ¬ L.length + R.length = L.length := by omega
  go_enter Tryz.func99, Tryz.ntmps99
  go_wp2_with fail
  go_quiet (fail)
  obtain ⟨w1, hcl, hm1, hx1, hp1⟩ := clear_tail (h.drewN nq) n h2 (L.length + R.length - L.length)
  have hc1 := blk_cell0 hx1
  have hf1 := hx1.frozen 0
  have hfin := NatIs.reslice hx1 hp1 h.ne.symm (c := L.length + R.length) (by rw [padTo_length h1]; simp; omega) hcap (n := n) (padTo_length h1).symm
  have hmod : Mod [x, p] w (w1.setCell ⟨x, 0, none⟩ (sl p 0 n (L.length + R.length))) := (hm1.ofDrewN.mono (by simp)).setCell _ _ (by simp)
  clear hm1
  rw [show L.length + R.length - L.length = R.length by omega] at hcl
  go_wp2_with fail
  go_ret
  exact ⟨p, _, rfl, hmod, hfin, .inl rfl⟩

set_option maxRecDepth 100000 in
set_option maxHeartbeats 1600000 in
theorem c_expand_full (x p : Nat) (L : List Nat) (w : World) (h : NatIs w x p L []) :
    Calls Tryz.prog 99 #[ptr x, i64 L.length] w fun e w' =>
      ∃ p' R', e = .returned (ptr x) ∧ Mod [x, p] w w' ∧ NatIs w' x p' (padTo L L.length) R' ∧ Kept w p p' := by
  have hc := h.cell
  have hcap := h.cap
  have hf := h.head.frozen 0
  have hcl := fun (w : World) (a : Option Addr) (c ty : Nat) => clear_none (w := w) a c ty
  have hfin : NatIs (w.setCell ⟨x, 0, none⟩ (sl p 0 L.length L.length)) x p (padTo L L.length) [] := by
    have := NatIs.reslice (L' := padTo L L.length) (R' := []) (c := L.length) (n := L.length) h.head (by simpa [padTo] using h.row) h.ne.symm (by simp [padTo]) (by simpa using hcap) (by simp [padTo])
    exact this
  simp only [List.length_nil, Nat.add_zero] at hc hcap
  have hmod : Mod [x, p] w (w.setCell ⟨x, 0, none⟩ (sl p 0 L.length L.length)) := (Mod.refl _ w).setCell _ _ (by simp)
  go_enter Tryz.func99, Tryz.ntmps99
  go_wp2_with fail
  go_quiet (fail)
  go_wp2_with fail
  go_ret
  exact ⟨p, _, rfl, hmod.drewN _, hfin.drewN _, .inl rfl⟩

/-- copy(d, s) of words, s no longer than d. -/
theorem copy_rows {w : World} {b q : Nat} {V M Q : List Nat} (hb : Blk w b 98 (V.map u64)) (hq : Blk w q 98 ((M ++ Q).map u64)) (hl : M.length ≤ V.length) (dc c' : Nat) (ts : Nat) :
    ∃ w1, (∀ ty, (Builtin.copy_ #[97, ts] ty #[sl b 0 V.length dc, sl q 0 M.length c']).run Tryz.prog w = .ok (goInt M.length) w1) ∧ Mod [b] w w1 ∧ Blk w1 b 98 ((M ++ V.drop M.length).map u64) := by
  have hsrc : ∀ j v, (M.map u64)[j]? = some v → w.cell? ((⟨q, 0, none⟩ : Addr).add j) = some v := by
    intro j v hj
    rw [add_addr, Nat.zero_add]
    have hjl : j < M.length := by simpa using (List.getElem?_eq_some_iff.1 hj).1
    rw [map_get hjl] at hj
    rw [hq.at j (by simp; omega), nth_append_left hjl]
    exact hj
  have hrun := fun ty => run_copy_cells (P := Tryz.prog) (ty := ty) (t' := ts) Tryz.underlying97 size_uint hb 0 V.length dc ⟨q, 0, none⟩ M.length c' (us := M.map u64) (by rw [List.length_map]; exact (Nat.min_eq_left hl).symm) hsrc (by simp; omega)
    (oneCell_map u64 (fun _ => rfl) M)
  simp only [List.length_map] at hrun
  have hs : splice' (V.map u64) (M.map u64) 0 = (M ++ V.drop M.length).map u64 := by rw [splice_map]; simp
  rw [hs] at hrun
  exact ⟨_, hrun, (Mod.refl _ w).setRow _ _ (by simp), hb.setRow _⟩

set_option maxRecDepth 100000 in
set_option maxHeartbeats 1600000 in
theorem c_expand_grow (x p n : Nat) (L R : List Nat) (w : World) (h : NatIs w x p L R) (h2 : L.length + R.length < n) (hn : n ≤ 100000) :
    Calls Tryz.prog 99 #[ptr x, i64 n] w fun e w' =>
      ∃ p' R', e = .returned (ptr x) ∧ Mod [x, p] w w' ∧ NatIs w' x p' (padTo L n) R' ∧ Kept w p p' := by
  have hc := h.cell
  have hcap := h.cap
  have hf := h.head.frozen 0
  have hxlt := h.xlt
  have hmk := make_uint n n (by omega) (by omega)
  generalize hrow : ((List.replicate n 0).map u64).toArray = row at hmk
  have hnew : Blk (w.alloc (.cells row 98)) w.heap.size 98 ((List.replicate n 0).map u64) := by rw [← hrow]; exact Blk.new w _ _
  obtain ⟨w1, hcp, hm1, hp1⟩ := copy_rows hnew (h.row.alloc _) (by simp; omega) n (L.length + R.length) 97
  rw [List.length_replicate] at hcp
  have hx1 : Blk w1 x 126 [sl p 0 L.length (L.length + R.length)] := (h.head.alloc _).mod hm1 (by simp; omega)
  have hc1 := blk_cell0 hx1
  have hf1 := hx1.frozen 0
  have hp2 : Blk w1 w.heap.size 98 ((padTo L n ++ []).map u64) := by
    have e : L ++ (List.replicate n 0).drop L.length = padTo L n ++ [] := by simp [padTo]
    rwa [e] at hp1
  have hm2 : Mod [x, p] w (w1.setCell ⟨x, 0, none⟩ (sl w.heap.size 0 n n)) :=
    ((((Mod.refl [] w).alloc _).trans (U := [x, p]) hm1 (by simp) (by simp))).setCell _ _ (by simp)
  have hfin := NatIs.reslice hx1 hp2 (by omega) (R' := []) (L' := padTo L n) (c := n) (by rw [padTo_length (by omega)]; simp) hn (n := n) (padTo_length (by omega)).symm
  clear hm1 hrow
  go_enter Tryz.func99, Tryz.ntmps99
  go_wp2_with fail
  go_ret
  exact ⟨_, _, rfl, hm2, hfin, .inr (by omega)⟩

theorem c_expand (x p n : Nat) (L R : List Nat) (w : World) (h : NatIs w x p L R) (h1 : L.length ≤ n) (hn : n ≤ 100000) :
    Calls Tryz.prog 99 #[ptr x, i64 n] w fun e w' =>
      ∃ p' R', e = .returned (ptr x) ∧ Mod [x, p] w w' ∧ NatIs w' x p' (padTo L n) R' ∧ Kept w p p' := by
  rcases Nat.lt_or_ge (L.length + R.length) n with hlt | hge
  · exact c_expand_grow x p n L R w h hlt hn
  · rcases Nat.eq_zero_or_pos R.length with h0 | hpos
    · obtain rfl := List.eq_nil_of_length_eq_zero h0
      obtain rfl : n = L.length := by simp at hge; omega
      exact c_expand_full x p L w h
    · exact c_expand_room x p n L R w h h1 hge hpos

set_option maxRecDepth 100000 in
theorem c_ExpandFor (x p m y q k : Nat) (odd : Bool) (r : Value) (L R M Q : List Nat) (w : World) (h : NatIs w x p L R) (hm : MHead w m y odd k r) (hy : NatIs w y q M Q) (h1 : L.length ≤ M.length) :
    Calls Tryz.prog 64 #[ptr x, ptr m] w fun e w' =>
      ∃ p' R', e = .returned (ptr x) ∧ Mod [x, p] w w' ∧ NatIs w' x p' (padTo L M.length) R' ∧ Kept w p p' := by
  have hc := hm.c0
  have hc2 := hy.cell
  have hcap := hy.cap
  go_enter Tryz.func64, Tryz.ntmps64
  go_wp2_with fail
  refine (c_expand x p M.length L R _ h h1 (by omega)).mono ?_
  rintro e w1 ⟨p', R', rfl, hm1, hx1, hk1⟩
  go_wp2_with fail
  go_ret
  exact ⟨p', R', rfl, hm1, hx1, hk1⟩

end Go.Proofs.YtkhopfobjijnlaaGreatDoor
namespace Go.Proofs.YtkhopfobjijnlaaGreatDoor

/-- All of the first k words are 0: 1, else 0. -/
def allZ (L : List Nat) : Nat → Nat
  | 0 => 1
  | k + 1 => min (allZ L k) (eqB (nth L k) 0)
theorem allZ_le (L : List Nat) (k : Nat) : allZ L k ≤ 1 := by
  induction k with
  | zero => simp [allZ]
  | succ k ih => simp only [allZ]; omega
theorem eqB_same (a : Nat) : eqB a a = 1 := if_pos rfl
theorem eqB_ne {a b : Nat} (h : a ≠ b) : eqB a b = 0 := if_neg h
theorem eqB_min0 {a b p : Nat} (hp : 0 < p) : min (eqB a 0) (eqB b 0) = eqB (a + p * b) 0 := by
  by_cases h1 : a = 0
  · by_cases h2 : b = 0
    · subst h1 h2; simp [eqB]
    · have := Nat.mul_pos hp (Nat.pos_of_ne_zero h2)
      rw [eqB_ne h2, eqB_ne (show a + p * b ≠ 0 by omega)]; omega
  · rw [eqB_ne h1, eqB_ne (show a + p * b ≠ 0 by omega)]; omega
theorem eqB_min1 {a b p : Nat} (hp : 1 < p) : min (eqB a 1) (eqB b 0) = eqB (a + p * b) 1 := by
  by_cases h2 : b = 0
  · subst h2; simp [eqB]; split <;> omega
  · have := Nat.mul_le_mul_left p (show 1 ≤ b by omega)
    rw [eqB_ne h2, eqB_ne (show a + p * b ≠ 1 by omega)]; omega
theorem allZ_eq {L : List Nat} : ∀ k, k ≤ L.length → allZ L k = eqB (val (L.take k)) 0 := by
  intro k
  induction k with
  | zero => intro _; rfl
  | succ k ih =>
    intro hk
    rw [val_take_succ (by omega), allZ, ih (by omega)]
    exact eqB_min0 (Nat.pow_pos W_pos)

/-- The first word is 1 and those behind it, below k, are 0. -/
def oneZ (L : List Nat) : Nat → Nat
  | 0 => eqB (nth L 0) 1
  | k + 1 => min (oneZ L k) (eqB (nth L (k + 1)) 0)
theorem oneZ_le (L : List Nat) (k : Nat) : oneZ L k ≤ 1 := by
  induction k with
  | zero => simp only [oneZ]; exact eqB_le _ _
  | succ k ih => simp only [oneZ]; omega
theorem oneZ_eq {L : List Nat} : ∀ k, k < L.length → oneZ L k = eqB (val (L.take (k + 1))) 1 := by
  intro k
  induction k with
  | zero =>
    intro hk
    rw [val_take_succ hk]
    simp [oneZ, val]
  | succ k ih =>
    intro hk
    rw [val_take_succ (by omega), oneZ, ih (by omega)]
    have hp : 1 < W ^ (k + 1) := by
      have : W ^ 1 ≤ W ^ (k + 1) := Nat.pow_le_pow_right W_pos (by omega)
      rw [Nat.pow_one] at this
      have := W_eq
      omega
    exact eqB_min1 hp

/-- How many words are left when zeros are taken off the end, of the first k. -/
def trimN (L : List Nat) : Nat → Nat
  | 0 => 0
  | k + 1 => if nth L k = 0 then trimN L k else k + 1
theorem trimN_le (L : List Nat) (k : Nat) : trimN L k ≤ k := by
  induction k with
  | zero => simp [trimN]
  | succ k ih => simp only [trimN]; split <;> omega
theorem trimN_val {L : List Nat} : ∀ k, k ≤ L.length → val (L.take (trimN L k)) = val (L.take k) := by
  intro k
  induction k with
  | zero => intro _; rfl
  | succ k ih =>
    intro hk
    simp only [trimN]
    split
    · rename_i h
      rw [ih (by omega), val_take_succ (by omega), h]
      omega
    · rfl
theorem trimN_top {L : List Nat} : ∀ k, trimN L k ≠ 0 → nth L (trimN L k - 1) ≠ 0 := by
  intro k
  induction k with
  | zero => intro h; exact absurd rfl h
  | succ k ih =>
    simp only [trimN]
    split
    · exact ih
    · rename_i h
      intro _
      simpa using h

/-- The bits of a row: of its highest word that is not 0, and 64 for each below. -/
def rowBits (L : List Nat) : Nat → Nat
  | 0 => 0
  | k + 1 => if nth L k = 0 then rowBits L k else k * 64 + blen (nth L k)

theorem lt_two_blen (n : Nat) : n < 2 ^ blen n := by
  unfold blen
  split
  · rename_i h; subst h; simp
  · rename_i h
    exact (Nat.log2_lt h).1 (Nat.lt_succ_self _)
theorem two_blen_le {n : Nat} (h : n ≠ 0) : 2 ^ (blen n - 1) ≤ n := by
  unfold blen
  rw [if_neg h]
  exact (Nat.le_log2 h (k := Nat.log2 n)).1 (Nat.le_refl _)
theorem blen_unique {n k : Nat} (h0 : n ≠ 0) (h1 : 2 ^ k ≤ n) (h2 : n < 2 ^ (k + 1)) : blen n = k + 1 := by
  unfold blen
  rw [if_neg h0]
  have a := (Nat.le_log2 h0).2 h1
  have b := (Nat.log2_lt h0).2 h2
  omega
theorem W_two : W = 2 ^ 64 := by rw [W_eq]
theorem W_pow (k : Nat) : W ^ k = 2 ^ (64 * k) := by rw [W_two, ← Nat.pow_mul]
theorem blen_add {a b k : Nat} (ha : a < 2 ^ k) (hb : b ≠ 0) : blen (a + 2 ^ k * b) = k + blen b := by
  have h1 := two_blen_le hb
  have h2 := lt_two_blen b
  have hb1 : 1 ≤ blen b := by unfold blen; rw [if_neg hb]; omega
  have e : k + blen b = (k + (blen b - 1)) + 1 := by omega
  rw [e]
  have hp : 0 < 2 ^ k := Nat.pow_pos (by omega)
  have hbp : 2 ^ k * 1 ≤ 2 ^ k * b := Nat.mul_le_mul_left _ (by omega)
  refine blen_unique (by omega) ?_ ?_
  · rw [Nat.pow_add]
    have := Nat.mul_le_mul_left (2 ^ k) h1
    omega
  · rw [show k + (blen b - 1) + 1 = k + blen b by omega, Nat.pow_add]
    have := Nat.mul_le_mul_left (2 ^ k) (show b + 1 ≤ 2 ^ blen b from h2)
    rw [Nat.mul_add] at this
    omega
theorem rowBits_eq {L : List Nat} (h : Words L) : ∀ k, k ≤ L.length → rowBits L k = blen (val (L.take k)) := by
  intro k
  induction k with
  | zero => intro _; rfl
  | succ k ih =>
    intro hk
    rw [val_take_succ (by omega)]
    simp only [rowBits]
    split
    · rename_i h0
      rw [h0, ih (by omega)]
      simp
    · rename_i h0
      have hl : val (L.take k) < W ^ k := by
        have := val_lt (h.take k)
        simpa [Nat.min_eq_left (show k ≤ L.length by omega)] using this
      rw [W_pow] at hl ⊢
      rw [blen_add hl h0]
      omega

/-! Sum and difference, word by word. -/
def addC (X Y : List Nat) : Nat → Nat
  | 0 => 0
  | i + 1 => addHi (nth X i) (nth Y i) (addC X Y i)
def addL (X Y : List Nat) : Nat → List Nat
  | 0 => X
  | i + 1 => (addL X Y i).set i (addLo (nth X i) (nth Y i) (addC X Y i))
def subC (X Y : List Nat) : Nat → Nat
  | 0 => 0
  | i + 1 => subHi (nth X i) (nth Y i) (subC X Y i)
def subL (X Y : List Nat) : Nat → List Nat
  | 0 => X
  | i + 1 => (subL X Y i).set i (subLo (nth X i) (nth Y i) (subC X Y i))

theorem addL_length (X Y : List Nat) (i : Nat) : (addL X Y i).length = X.length := by
  induction i with
  | zero => rfl
  | succ i ih => simp [addL, ih]
theorem subL_length (X Y : List Nat) (i : Nat) : (subL X Y i).length = X.length := by
  induction i with
  | zero => rfl
  | succ i ih => simp [subL, ih]
theorem addC_le {X Y : List Nat} (hX : Words X) (hY : Words Y) (i : Nat) : addC X Y i ≤ 1 := by
  induction i with
  | zero => simp [addC]
  | succ i ih => exact addHi_le (hX.nth i) (hY.nth i) ih
theorem subC_le (X Y : List Nat) (i : Nat) : subC X Y i ≤ 1 := by
  cases i with
  | zero => simp [subC]
  | succ i => exact subHi_le _ _ _
theorem addL_words {X Y : List Nat} (hX : Words X) (i : Nat) : Words (addL X Y i) := by
  induction i with
  | zero => exact hX
  | succ i ih => exact ih.set _ (addLo_lt _ _ _)
theorem subL_words {X Y : List Nat} (hX : Words X) (i : Nat) : Words (subL X Y i) := by
  induction i with
  | zero => exact hX
  | succ i ih => exact ih.set _ (subLo_lt _ _ _)
theorem addL_at (X Y : List Nat) {i j : Nat} (h : i ≤ j) : nth (addL X Y i) j = nth X j := by
  induction i with
  | zero => rfl
  | succ i ih => simp only [addL]; rw [nth_set_ne (by omega), ih (by omega)]
theorem subL_at (X Y : List Nat) {i j : Nat} (h : i ≤ j) : nth (subL X Y i) j = nth X j := by
  induction i with
  | zero => rfl
  | succ i ih => simp only [subL]; rw [nth_set_ne (by omega), ih (by omega)]

theorem take_set_ge {L : List Nat} {i k v : Nat} (h : k ≤ i) : (L.set i v).take k = L.take k := by
  rw [List.take_set_of_le h]
theorem take_succ_set {L : List Nat} {i v : Nat} (h : i < L.length) : val ((L.set i v).take (i + 1)) = val (L.take i) + W ^ i * v := by
  rw [val_take_succ (by simpa using h), take_set_ge (Nat.le_refl _), nth_set_same h]

theorem addL_val {X Y : List Nat} : ∀ i, i ≤ X.length → i ≤ Y.length →
    val ((addL X Y i).take i) + W ^ i * addC X Y i = val (X.take i) + val (Y.take i) := by
  intro i
  induction i with
  | zero => intro _ _; simp [addC, val]
  | succ i ih =>
    intro h1 h2
    have := ih (by omega) (by omega)
    simp only [addL, addC]
    rw [take_succ_set (by rw [addL_length]; omega), val_take_succ (by omega), val_take_succ (by omega)]
    have e := add_eq (nth X i) (nth Y i) (addC X Y i)
    have e2 : W ^ i * addLo (nth X i) (nth Y i) (addC X Y i) + W ^ (i + 1) * addHi (nth X i) (nth Y i) (addC X Y i) = W ^ i * nth X i + W ^ i * nth Y i + W ^ i * addC X Y i := by
      rw [Nat.pow_succ, Nat.mul_assoc, ← Nat.mul_add, e]
      simp only [Nat.mul_add]
    omega
theorem subL_val {X Y : List Nat} (hX : Words X) (hY : Words Y) : ∀ i, i ≤ X.length → i ≤ Y.length →
    val ((subL X Y i).take i) + val (Y.take i) = val (X.take i) + W ^ i * subC X Y i := by
  intro i
  induction i with
  | zero => intro _ _; simp [subC, val]
  | succ i ih =>
    intro h1 h2
    have := ih (by omega) (by omega)
    simp only [subL, subC]
    rw [take_succ_set (by rw [subL_length]; omega), val_take_succ (by omega), val_take_succ (by omega)]
    have e := sub_eq (hX.nth i) (hY.nth i) (subC_le X Y i)
    have e2 : W ^ i * subLo (nth X i) (nth Y i) (subC X Y i) + W ^ i * nth Y i + W ^ i * subC X Y i = W ^ i * nth X i + W ^ (i + 1) * subHi (nth X i) (nth Y i) (subC X Y i) := by
      rw [Nat.pow_succ, Nat.mul_assoc, ← Nat.mul_add, ← Nat.mul_add, ← Nat.mul_add, e]
    omega

/-- Whole rows: the sum and what is carried out; the difference and what is borrowed. -/
theorem add_whole {X Y : List Nat} (h : Y.length = X.length) : val (addL X Y X.length) + W ^ X.length * addC X Y X.length = val X + val Y := by
  have := addL_val (X := X) (Y := Y) X.length (Nat.le_refl _) (by omega)
  have h1 : (addL X Y X.length).take X.length = addL X Y X.length := List.take_of_length_le (by rw [addL_length]; omega)
  have h2 : X.take X.length = X := List.take_length
  have h3 : Y.take X.length = Y := by rw [← h]; exact List.take_length
  rwa [h1, h2, h3] at this
theorem sub_whole {X Y : List Nat} (hX : Words X) (hY : Words Y) (h : Y.length = X.length) : val (subL X Y X.length) + val Y = val X + W ^ X.length * subC X Y X.length := by
  have := subL_val hX hY X.length (Nat.le_refl _) (by omega)
  have h1 : (subL X Y X.length).take X.length = subL X Y X.length := List.take_of_length_le (by rw [subL_length]; omega)
  have h2 : X.take X.length = X := List.take_length
  have h3 : Y.take X.length = Y := by rw [← h]; exact List.take_length
  rwa [h1, h2, h3] at this
/-- What is borrowed is 1 exactly where the second number is the greater one. -/
theorem subC_whole {X Y : List Nat} (hX : Words X) (hY : Words Y) (h : Y.length = X.length) : subC X Y X.length = if val X < val Y then 1 else 0 := by
  have e := sub_whole hX hY h
  have h1 := val_lt (subL_words (Y := Y) hX X.length)
  rw [subL_length] at h1
  have h2 := val_lt hX
  have h3 := val_lt hY
  have hc := subC_le X Y X.length
  rw [h] at h3
  have : subC X Y X.length = 0 ∨ subC X Y X.length = 1 := by omega
  rcases this with h0 | h0
  · rw [h0] at e ⊢
    rw [if_neg (by omega)]
  · rw [h0] at e ⊢
    rw [if_pos (by omega)]

/-! Word by word one of two rows. -/
def selL (on : Nat) (X Y : List Nat) : Nat → List Nat
  | 0 => X
  | i + 1 => (selL on X Y i).set i (if on = 0 then nth X i else nth Y i)
theorem selL_length (on : Nat) (X Y : List Nat) (i : Nat) : (selL on X Y i).length = X.length := by
  induction i with
  | zero => rfl
  | succ i ih => simp [selL, ih]
theorem selL_at (on : Nat) (X Y : List Nat) {i j : Nat} (h : i ≤ j) : nth (selL on X Y i) j = nth X j := by
  induction i with
  | zero => rfl
  | succ i ih => simp only [selL]; rw [nth_set_ne (by omega), ih (by omega)]
theorem nth_ext {A B : List Nat} (hl : A.length = B.length) (h : ∀ i, i < A.length → nth A i = nth B i) : A = B := by
  refine List.ext_getElem hl fun i h1 h2 => ?_
  have := h i h1
  rwa [nth_eq _ _ h1, nth_eq _ _ h2] at this
theorem selL_lt (on : Nat) (X Y : List Nat) {i j : Nat} (h : j < i) (hj : j < X.length) : nth (selL on X Y i) j = if on = 0 then nth X j else nth Y j := by
  induction i with
  | zero => omega
  | succ i ih =>
    simp only [selL]
    by_cases hij : i = j
    · subst hij
      rw [nth_set_same (by rw [selL_length]; exact hj)]
    · rw [nth_set_ne hij, ih (by omega)]
theorem selL_whole (on : Nat) {X Y : List Nat} (h : Y.length = X.length) : selL on X Y X.length = if on = 0 then X else Y := by
  split
  · refine nth_ext (selL_length _ _ _ _) fun i hi => ?_
    rw [selL_length] at hi
    rw [selL_lt _ _ _ hi hi, if_pos (by assumption)]
  · refine nth_ext ((selL_length _ _ _ _).trans h.symm) fun i hi => ?_
    rw [selL_length] at hi
    rw [selL_lt _ _ _ hi hi, if_neg (by assumption)]

end Go.Proofs.YtkhopfobjijnlaaGreatDoor
