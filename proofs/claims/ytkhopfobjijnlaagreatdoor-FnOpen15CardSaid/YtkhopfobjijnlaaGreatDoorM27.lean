/- The table of bigmod's Exp: numbers that lie apart, and the laws of its rounds. The state of bigmod's Exp: its numbers, its table's row; the nibbles of a byte. The steps of bigmod's Exp on its state. -/
import Derived.Test.YtkhopfobjijnlaaGreatDoorM23
set_option linter.all false
set_option exponentiation.threshold 7000000
namespace Go.Proofs.YtkhopfobjijnlaaGreatDoor
open Go.RowKit

/-- n numbers whose blocks are apart, Q says what each holds. -/
structure Tab (n0 : Nat) (w : World) (n : Nat) (xs ps : List Nat) (Q : Nat → List Nat → Prop) : Prop where
  lx : xs.length = n
  lp : ps.length = n
  nat : ∀ j, j < n → ∃ L R, NatIs w (nth xs j) (nth ps j) L R ∧ Q j L
  gx : ∀ j, j < n → n0 ≤ nth xs j ∧ n0 ≤ nth ps j
  dx : ∀ i j, i < n → j < n → i ≠ j → nth xs i ≠ nth xs j
  dp : ∀ i j, i < n → j < n → i ≠ j → nth ps i ≠ nth ps j

theorem Tab.nil (n0 : Nat) (w : World) (Q : Nat → List Nat → Prop) : Tab n0 w 0 [] [] Q := ⟨rfl, rfl, fun _ h => by omega, fun _ h => by omega, fun _ _ h => by omega, fun _ _ h => by omega⟩
theorem Tab.push {n0 : Nat} {w w' : World} {n : Nat} {xs ps : List Nat} {Q : Nat → List Nat → Prop} (h : Tab n0 w n xs ps Q) (m : Mod [] w w') {x p : Nat} {L R : List Nat} (hx : NatIs w' x p L R) (gx : w.heap.size ≤ x) (gp : w.heap.size ≤ p) (g0 : n0 ≤ w.heap.size) (hQ : Q n L) :
    Tab n0 w' (n + 1) (xs ++ [x]) (ps ++ [p]) Q := by
  have e1 : ∀ j, j < n → nth (xs ++ [x]) j = nth xs j := fun j hj => nth_append_left (by rw [h.lx]; exact hj)
  have e2 : ∀ j, j < n → nth (ps ++ [p]) j = nth ps j := fun j hj => nth_append_left (by rw [h.lp]; exact hj)
  have e3 : nth (xs ++ [x]) n = x := by rw [nth_append_right (by rw [h.lx]; exact Nat.le_refl _), h.lx, Nat.sub_self]; rfl
  have e4 : nth (ps ++ [p]) n = p := by rw [nth_append_right (by rw [h.lp]; exact Nat.le_refl _), h.lp, Nat.sub_self]; rfl
  have lt1 : ∀ j, j < n → nth xs j < w.heap.size ∧ nth ps j < w.heap.size := fun j hj => by
    obtain ⟨L, R, h1, -⟩ := h.nat j hj
    exact ⟨h1.xlt, h1.plt⟩
  have cs : ∀ j, j < n + 1 → j < n ∨ j = n := fun j hj => by omega
  refine ⟨by simp [h.lx], by simp [h.lp], ?_, ?_, ?_, ?_⟩
  · intro j hj
    rcases cs j hj with h1 | rfl
    · rw [e1 j h1, e2 j h1]
      obtain ⟨L, R, h2, h3⟩ := h.nat j h1
      exact ⟨L, R, h2.mod m (by simp) (by simp), h3⟩
    · rw [e3, e4]; exact ⟨L, R, hx, hQ⟩
  · intro j hj
    rcases cs j hj with h1 | rfl
    · rw [e1 j h1, e2 j h1]; exact h.gx j h1
    · rw [e3, e4]; omega
  · intro i j hi hj hij
    rcases cs i hi with h1 | rfl <;> rcases cs j hj with h2 | rfl
    · rw [e1 i h1, e1 j h2]; exact h.dx i j h1 h2 hij
    · rw [e1 i h1, e3]; have := (lt1 i h1).1; omega
    · rw [e1 j h2, e3]; have := (lt1 j h2).1; omega
    · exact absurd rfl hij
  · intro i j hi hj hij
    rcases cs i hi with h1 | rfl <;> rcases cs j hj with h2 | rfl
    · rw [e2 i h1, e2 j h2]; exact h.dp i j h1 h2 hij
    · rw [e2 i h1, e4]; have := (lt1 i h1).2; omega
    · rw [e2 j h2, e4]; have := (lt1 j h2).2; omega
    · exact absurd rfl hij
/-- One of them is written. -/
theorem Tab.upd {n0 : Nat} {w w' : World} {n i : Nat} {xs ps : List Nat} {Q Q' : Nat → List Nat → Prop} (h : Tab n0 w n xs ps Q) (hi : i < n) (m : Mod [nth xs i, nth ps i] w w') {p : Nat} {L R : List Nat} (hx : NatIs w' (nth xs i) p L R) (hk : Kept w (nth ps i) p) (gp : n0 ≤ p)
    (hQ : ∀ j L, j ≠ i → Q j L → Q' j L) (hQi : Q' i L) : Tab n0 w' n xs (ps.set i p) Q' := by
  have e1 : nth (ps.set i p) i = p := nth_set_same (by rw [h.lp]; exact hi)
  have e2 : ∀ j, j ≠ i → nth (ps.set i p) j = nth ps j := fun j hj => nth_set_ne (by omega)
  obtain ⟨Li, Ri, hni, -⟩ := h.nat i hi
  refine ⟨h.lx, by simp [h.lp], ?_, ?_, h.dx, ?_⟩
  · intro j hj
    by_cases hji : j = i
    · subst hji; rw [e1]; exact ⟨L, R, hx, hQi⟩
    · rw [e2 j hji]
      obtain ⟨Lj, Rj, h2, h3⟩ := h.nat j hj
      have a1 := h.dx j i hj hi hji
      have a2 := h.dp j i hj hi hji
      have a3 : nth xs j ≠ nth ps i := h2.head.ne hni.row (by decide)
      have a4 : nth ps j ≠ nth xs i := h2.row.ne hni.head (by decide)
      exact ⟨Lj, Rj, h2.mod m (by simp; exact ⟨a1, a3⟩) (by simp; exact ⟨a4, a2⟩), hQ j Lj hji h3⟩
  · intro j hj
    by_cases hji : j = i
    · subst hji; rw [e1]; exact ⟨(h.gx j hj).1, gp⟩
    · rw [e2 j hji]; exact h.gx j hj
  · intro a b ha hb hab
    have lt1 : ∀ j, j < n → nth ps j < w.heap.size := fun j hj => by
      obtain ⟨L, R, h1, -⟩ := h.nat j hj
      exact h1.plt
    by_cases h1 : a = i
    · subst h1
      rw [e1, e2 b (by omega)]
      exact (hk.ne (lt1 b hb) (h.dp b a hb ha (by omega))).symm
    · by_cases h2 : b = i
      · subst h2
        rw [e1, e2 a h1]
        exact hk.ne (lt1 a ha) (h.dp a b ha hb hab)
      · rw [e2 a h1, e2 b h2]; exact h.dp a b ha hb hab
/-- Other blocks are written. -/
theorem Tab.mod {n0 : Nat} {w w' : World} {n : Nat} {xs ps S : List Nat} {Q : Nat → List Nat → Prop} (h : Tab n0 w n xs ps Q) (m : Mod S w w') (hS : ∀ j, j < n → nth xs j ∉ S ∧ nth ps j ∉ S) : Tab n0 w' n xs ps Q := by
  refine ⟨h.lx, h.lp, fun j hj => ?_, h.gx, h.dx, h.dp⟩
  obtain ⟨L, R, h1, h2⟩ := h.nat j hj
  exact ⟨L, R, h1.mod m (hS j hj).1 (hS j hj).2, h2⟩
theorem Tab.turn {n0 : Nat} {w : World} {n : Nat} {xs ps : List Nat} {Q Q' : Nat → List Nat → Prop} (h : Tab n0 w n xs ps Q) (hQ : ∀ j L, j < n → Q j L → Q' j L) : Tab n0 w n xs ps Q' := by
  refine ⟨h.lx, h.lp, fun j hj => ?_, h.gx, h.dx, h.dp⟩
  obtain ⟨L, R, h1, h2⟩ := h.nat j hj
  exact ⟨L, R, h1, hQ j L hj h2⟩
theorem Tab.lt {n0 : Nat} {w : World} {n : Nat} {xs ps : List Nat} {Q : Nat → List Nat → Prop} (h : Tab n0 w n xs ps Q) (j : Nat) (hj : j < n) : nth xs j < w.heap.size ∧ nth ps j < w.heap.size := by
  obtain ⟨L, R, h1, -⟩ := h.nat j hj
  exact ⟨h1.xlt, h1.plt⟩

/-- A number in Montgomery's form: a times R. -/
structure InR (a : Nat) (X M : List Nat) : Prop where
  below : Below' X M
  eq : val X = (a * W ^ M.length) % val M
theorem InR.mul {a b : Nat} {A B X M : List Nat} (ho : val M % 2 = 1) (hM : 1 < val M) (hA : InR a A M) (hB : InR b B M) (hX : Below' X M) (h : (val X * W ^ M.length) % val M = (val A * val B) % val M) : InR (a * b) X M := by
  refine ⟨hX, ?_⟩
  refine mod_cancel_lt (cop_W ho M.length) hX.lt (Nat.mod_lt _ (by omega)) ?_
  rw [h, hA.eq, hB.eq, ← Nat.mul_mod, Nat.mod_mul_mod]
  congr 1
  generalize W ^ M.length = r
  grind
/-- Only the power of a number modulo M matters. -/
theorem InR.congr {a b : Nat} {X M : List Nat} (h : InR a X M) (hab : a % val M = b % val M) : InR b X M := by
  refine ⟨h.below, ?_⟩
  rw [h.eq, Nat.mul_mod, hab, ← Nat.mul_mod]
theorem InR.red {a : Nat} {A X M : List Nat} (ho : val M % 2 = 1) (hM : 1 < val M) (hA : InR a A M) (hX : Below' X M) (h : (val X * W ^ M.length) % val M = val A) : val X = a % val M := by
  refine mod_cancel_lt (cop_W ho M.length) hX.lt (Nat.mod_lt _ (by omega)) ?_
  rw [h, hA.eq, Nat.mod_mul_mod]
theorem oneL_below {M : List Nat} (h : 1 < val M) : Below' (oneL M.length) M := ⟨oneL_len _, oneL_words _, by rw [oneL_val (len_pos h)]; exact h⟩
end Go.Proofs.YtkhopfobjijnlaaGreatDoor
namespace Go.Proofs.YtkhopfobjijnlaaGreatDoor
open Go.RowKit

/-- Exp on its way: the numbers xs (the first one is the result o), the table's row. -/
structure XS (w0 w wr : World) (o po tb n : Nat) (xs ys ps : List Nat) (Q : Nat → List Nat → Prop) : Prop where
  tab : Tab w0.heap.size wr n xs ps Q
  frame : Mod [o, po] w wr
  row : Blk wr tb 132 (ys.map ptr)
  k0 : Kept w po (nth ps 0)
  new : ∀ j, 1 ≤ j → j < n → w.heap.size ≤ nth xs j ∧ w.heap.size ≤ nth ps j
  x0 : nth xs 0 = o
  base : w0.heap.size ≤ w.heap.size

theorem XS.upd {w0 w wr w' : World} {o po tb n i p : Nat} {xs ys ps : List Nat} {Q Q' : Nat → List Nat → Prop} {L R : List Nat} (h : XS w0 w wr o po tb n xs ys ps Q) (hi : i < n) (m : Mod [nth xs i, nth ps i] wr w') (hx : NatIs w' (nth xs i) p L R) (hk : Kept wr (nth ps i) p)
    (hQ : ∀ j L, j ≠ i → Q j L → Q' j L) (hQi : Q' i L) : XS w0 w w' o po tb n xs ys (ps.set i p) Q' := by
  have hs := h.frame.size
  obtain ⟨Li, Ri, hni, -⟩ := h.tab.nat i hi
  have gi := h.tab.gx i hi
  have hlp := h.tab.lp
  have gp : w0.heap.size ≤ p := by
    have := h.base
    rcases hk with h1 | h1 <;> omega
  refine ⟨h.tab.upd hi m hx hk gp hQ hQi, ?_, ?_, ?_, ?_, h.x0, h.base⟩
  · refine Mod.trans (U := [o, po]) h.frame m (fun a ha _ => ha) (fun a ha hlt => ?_)
    simp at ha
    rcases Nat.eq_zero_or_pos i with h0 | h0
    · subst h0
      rw [h.x0] at ha
      rcases h.k0 with h1 | h1
      · rw [h1] at ha; simp [ha]
      · rcases ha with ha | ha
        · simp [ha]
        · omega
    · have := h.new i h0 hi
      omega
  · exact h.row.mod m (by simp; exact ⟨h.row.ne hni.head (by decide), h.row.ne hni.row (by decide)⟩)
  · rcases Nat.eq_zero_or_pos i with h0 | h0
    · subst h0
      rw [nth_set_same (by omega)]
      rcases hk with h1 | h1
      · rw [h1]; exact h.k0
      · exact .inr (by omega)
    · rw [nth_set_ne (by omega)]; exact h.k0
  · intro j h1 h2
    have hj := h.new j h1 h2
    by_cases hji : j = i
    · subst hji
      rw [nth_set_same (by omega)]
      refine ⟨hj.1, ?_⟩
      rcases hk with h3 | h3 <;> omega
    · rw [nth_set_ne (by omega)]; exact hj
theorem XS.mod {w0 w wr w' : World} {o po tb n : Nat} {xs ys ps : List Nat} {Q : Nat → List Nat → Prop} (h : XS w0 w wr o po tb n xs ys ps Q) (m : Mod [] wr w') : XS w0 w w' o po tb n xs ys ps Q :=
  ⟨h.tab.mod m (fun _ _ => by simp), Mod.trans (U := [o, po]) h.frame m (fun a ha _ => ha) (by simp), h.row.mod m (by simp), h.k0, h.new, h.x0, h.base⟩
theorem XS.turn {w0 w wr : World} {o po tb n : Nat} {xs ys ps : List Nat} {Q Q' : Nat → List Nat → Prop} (h : XS w0 w wr o po tb n xs ys ps Q) (hQ : ∀ j L, j < n → Q j L → Q' j L) : XS w0 w wr o po tb n xs ys ps Q' :=
  ⟨h.tab.turn hQ, h.frame, h.row, h.k0, h.new, h.x0, h.base⟩
/-- One number more. -/
theorem XS.push {w0 w wr w' : World} {o po tb n x p : Nat} {xs ys ps : List Nat} {Q : Nat → List Nat → Prop} {L R : List Nat} (h : XS w0 w wr o po tb n xs ys ps Q) (h1 : 1 ≤ n) (m : Mod [] wr w') (hx : NatIs w' x p L R) (gx : wr.heap.size ≤ x) (gp : wr.heap.size ≤ p) (hQ : Q n L) :
    XS w0 w w' o po tb (n + 1) (xs ++ [x]) ys (ps ++ [p]) Q := by
  have hs := h.frame.size
  have hb := h.base
  have l1 := h.tab.lx
  have l2 := h.tab.lp
  refine ⟨h.tab.push m hx gx gp (by omega) hQ, (h.mod m).frame, (h.mod m).row, ?_, ?_, ?_, hb⟩
  · rw [nth_append_left (by omega)]; exact h.k0
  · intro j h2 h3
    by_cases hj : j < n
    · rw [nth_append_left (by omega), nth_append_left (by omega)]; exact h.new j h2 hj
    · obtain rfl : j = n := by omega
      have e3 : nth (xs ++ [x]) j = x := by rw [nth_append_right (by omega), l1, Nat.sub_self]; rfl
      have e4 : nth (ps ++ [p]) j = p := by rw [nth_append_right (by omega), l2, Nat.sub_self]; rfl
      rw [e3, e4]
      omega
  · rw [nth_append_left (by omega)]; exact h.x0
/-- What the frame says of the base's world. -/
theorem XS.base0 {w0 w wr : World} {o po tb n : Nat} {xs ys ps : List Nat} {Q : Nat → List Nat → Prop} (h : XS w0 w wr o po tb n xs ys ps Q) (h0 : Mod [] w0 w) (g1 : w0.heap.size ≤ o) (g2 : w0.heap.size ≤ po) : Mod [] w0 wr := h0.keep2 h.frame g1 g2

/-- The bytes ahead of a place, and one more. -/
theorem bval_take {E : List Nat} {i : Nat} (hi : i < E.length) : bval (E.take (i + 1)) = 256 * bval (E.take i) + nth E i := by
  have hl : (E.take (i + 1)).length = i + 1 := by simp; omega
  have hl2 : (E.take i).length = i := by simp; omega
  unfold bval
  rw [hl, hl2]
  have e := bseg_add (E.take (i + 1)) (i + 1) 1 i
  rw [show 1 + i = i + 1 by omega] at e
  rw [e]
  have h1 : bseg (E.take (i + 1)) (i + 1) 1 = nth E i := by
    simp only [bseg, Nat.pow_zero, Nat.one_mul, Nat.zero_add, Nat.add_sub_cancel, Nat.sub_zero]
    simp [nth]
  have h2 : ∀ t, t ≤ i → bseg (E.take (i + 1)) (i + 1 - 1) t = bseg (E.take i) i t := by
    intro t
    induction t with
    | zero => intro _; rfl
    | succ t ih =>
      intro ht
      simp only [bseg]
      rw [ih (by omega), Nat.add_sub_cancel]
      congr 2
      simp [nth, List.getElem?_take]
      rw [if_pos (by omega), if_pos (by omega)]
  rw [h1, h2 i (Nat.le_refl _), Nat.pow_one]
  omega
/-- The nibbles of a byte, as the code reads them. -/
theorem nib_hi : ∀ b : Fin 256, bits .and .u8 ((b.val / 16 : Nat) : Int) 15 = ((b.val / 16 : Nat) : Int) := by decide +kernel
theorem nib_lo : ∀ b : Fin 256, bits .and .u8 ((b.val : Nat) : Int) 15 = ((b.val % 16 : Nat) : Int) := by decide +kernel
end Go.Proofs.YtkhopfobjijnlaaGreatDoor
namespace Go.Proofs.YtkhopfobjijnlaaGreatDoor
open Go.RowKit

/-- What the numbers hold: O of the result, the table's powers up to k, T of the last one. -/
def ExpQ (O T : List Nat → Prop) (M : List Nat) (c k : Nat) (j : Nat) (L : List Nat) : Prop := (j = 0 → O L) ∧ (1 ≤ j → j ≤ k → InR (c ^ j) L M) ∧ (j = 16 → T L)
/-- Rows of other types are as they were. -/
def RowsKept (w w' : World) : Prop := ∀ b T vs, T ≠ 126 → T ≠ 98 → Blk w b T vs → Blk w' b T vs
theorem RowsKept.of {w w' : World} {x p : Nat} {L R : List Nat} (hx : NatIs w x p L R) (m : Mod [x, p] w w') : RowsKept w w' := by
  intro b T vs h1 h2 hb
  exact hb.mod m (by simp; exact ⟨hb.ne hx.head h1, hb.ne hx.row h2⟩)

section
variable {w0 w wr : World} {n m y q o po tb t c a kk : Nat} {M Q : List Nat} {xs ys ps : List Nat}

theorem c_xsq (h0 : Mod [] w0 w) (hM : ModIs w0 n m y q M Q) (ho : val M % 2 = 1) (go : w0.heap.size ≤ o) (gpo : w0.heap.size ≤ po) {T : List Nat → Prop}
    (X : XS w0 w wr o po tb 17 xs ys ps (ExpQ (fun L => InR a L M) T M c 15)) :
    Calls Tryz.prog 89 #[ptr o, ptr o, ptr o, ptr m] wr fun e w' => ∃ ps', e = .returned (ptr o) ∧ XS w0 w w' o po tb 17 xs ys ps' (ExpQ (fun L => InR (a * a) L M) T M c 15) ∧ RowsKept wr w' := by
  obtain ⟨L, R, h1, h2⟩ := X.tab.nat 0 (by omega)
  have g := (X.tab.gx 0 (by omega)).2
  have hI := h2.1 rfl
  rw [X.x0] at h1
  refine (c_montB w0 wr n m y q o (nth ps 0) o (nth ps 0) o (nth ps 0) M Q L R L R L R (X.base0 h0 go gpo) hM ho h1 h1 h1 hI.below hI.below.len hI.below.words go g).mono ?_
  rintro e w' ⟨p', A, R', rfl, m2, n2, k2, g2, bA, eA⟩
  refine ⟨_, rfl, X.upd (i := 0) (by omega) (by rw [X.x0]; exact m2) (by rw [X.x0]; exact n2) k2 (fun j L hj h => ⟨fun h1 => absurd h1 hj, h.2.1, h.2.2⟩) ⟨fun _ => InR.mul ho hM.big hI hI bA eA, fun h => by omega, fun h => by omega⟩, RowsKept.of h1 m2⟩

theorem c_xmul (h0 : Mod [] w0 w) (hM : ModIs w0 n m y q M Q) (ho : val M % 2 = 1) (go : w0.heap.size ≤ o) (gpo : w0.heap.size ≤ po) (ht : nth xs 16 = t)
    (X : XS w0 w wr o po tb 17 xs ys ps (ExpQ (fun L => InR a L M) (fun L => Below' L M ∧ (kk ≠ 0 → InR (c ^ kk) L M)) M c 15)) :
    Calls Tryz.prog 89 #[ptr t, ptr o, ptr t, ptr m] wr fun e w' => ∃ ps', e = .returned (ptr t) ∧ XS w0 w w' o po tb 17 xs ys ps' (ExpQ (fun L => InR a L M) (fun L => Below' L M ∧ (kk ≠ 0 → InR (a * c ^ kk) L M)) M c 15) ∧ RowsKept wr w' := by
  obtain ⟨L, R, h1, h2⟩ := X.tab.nat 0 (by omega)
  obtain ⟨Lt, Rt, h3, h4⟩ := X.tab.nat 16 (by omega)
  have g := X.tab.gx 16 (by omega)
  have hI := h2.1 rfl
  have hT := h4.2.2 rfl
  rw [X.x0] at h1
  rw [ht] at h3 g
  refine (c_montB w0 wr n m y q t (nth ps 16) o (nth ps 0) t (nth ps 16) M Q Lt Rt L R Lt Rt (X.base0 h0 go gpo) hM ho h3 h1 h3 hI.below hT.1.len hT.1.words g.1 g.2).mono ?_
  rintro e w' ⟨p', A, R', rfl, m2, n2, k2, g2, bA, eA⟩
  refine ⟨_, rfl, X.upd (i := 16) (by omega) (by rw [ht]; exact m2) (by rw [ht]; exact n2) k2 (fun j L hj h => ⟨h.1, h.2.1, fun h1 => absurd h1 hj⟩) ⟨fun h => by omega, fun h1 h2 => by omega, fun _ => ⟨bA, fun hk => InR.mul ho hM.big hI (hT.2 hk) bA eA⟩⟩, RowsKept.of h3 m2⟩

theorem selW_cases (on : Nat) (X Y : List Nat) : (on = 0 ∧ selW on X Y = X) ∨ (on ≠ 0 ∧ selW on X Y = Y) := by
  unfold selW
  by_cases h : on = 0
  · exact .inl ⟨h, if_pos h⟩
  · exact .inr ⟨h, if_neg h⟩

theorem c_xasg {jj : Nat} (hj : jj < 15) (ht : nth xs 16 = t)
    (X : XS w0 w wr o po tb 17 xs ys ps (ExpQ (fun L => InR a L M) (fun L => Below' L M ∧ (1 ≤ kk → kk ≤ jj → InR (c ^ kk) L M)) M c 15)) :
    Calls Tryz.prog 90 #[ptr t, u64 (eqB kk (jj + 1)), ptr (nth xs (jj + 1))] wr fun e w' => ∃ ps', e = .returned (ptr t) ∧ XS w0 w w' o po tb 17 xs ys ps' (ExpQ (fun L => InR a L M) (fun L => Below' L M ∧ (1 ≤ kk → kk ≤ jj + 1 → InR (c ^ kk) L M)) M c 15) ∧ RowsKept wr w' := by
  obtain ⟨L, R, h1, h2⟩ := X.tab.nat (jj + 1) (by omega)
  obtain ⟨Lt, Rt, h3, h4⟩ := X.tab.nat 16 (by omega)
  have hI := h2.2.1 (by omega) (by omega)
  have hT := h4.2.2 rfl
  rw [ht] at h3
  refine (c_assign t (nth xs (jj + 1)) (nth ps 16) (nth ps (jj + 1)) (eqB kk (jj + 1)) Lt Rt L R wr h3 h1 (hI.below.len.trans hT.1.len.symm) hT.1.words hI.below.words (eqB_le _ _)).mono ?_
  rintro e w' ⟨rfl, m2, n2⟩
  have m3 : Mod [t, nth ps 16] wr w' := m2.mono (by simp)
  refine ⟨_, rfl, X.upd (i := 16) (by omega) (by rw [ht]; exact m3) (by rw [ht]; exact n2) (.inl rfl) (fun j L hj h => ⟨h.1, h.2.1, fun h1 => absurd h1 hj⟩) ⟨fun h => by omega, fun h1 h2 => by omega, fun _ => ?_⟩, RowsKept.of h3 m3⟩
  rcases selW_cases (eqB kk (jj + 1)) Lt L with ⟨h5, h6⟩ | ⟨h5, h6⟩
  · rw [h6]
    refine ⟨hT.1, fun h7 h8 => hT.2 h7 ?_⟩
    have : kk ≠ jj + 1 := by intro h9; rw [h9] at h5; simp [eqB] at h5
    omega
  · rw [h6]
    refine ⟨hI.below, fun h7 h8 => ?_⟩
    have : kk = jj + 1 := by
      apply Classical.byContradiction
      intro h9
      exact h5 (eqB_ne h9)
    rw [this]; exact hI

theorem c_xout (ht : nth xs 16 = t)
    (X : XS w0 w wr o po tb 17 xs ys ps (ExpQ (fun L => InR a L M) (fun L => Below' L M ∧ (kk ≠ 0 → InR (a * c ^ kk) L M)) M c 15)) :
    Calls Tryz.prog 90 #[ptr o, u64 (notB (eqB kk 0)), ptr t] wr fun e w' => ∃ ps', e = .returned (ptr o) ∧ XS w0 w w' o po tb 17 xs ys ps' (ExpQ (fun L => InR (a * c ^ kk) L M) (fun L => Below' L M) M c 15) ∧ RowsKept wr w' := by
  obtain ⟨L, R, h1, h2⟩ := X.tab.nat 0 (by omega)
  obtain ⟨Lt, Rt, h3, h4⟩ := X.tab.nat 16 (by omega)
  have hI := h2.1 rfl
  have hT := h4.2.2 rfl
  rw [ht] at h3
  rw [X.x0] at h1
  refine (c_assign o t (nth ps 0) (nth ps 16) (notB (eqB kk 0)) L R Lt Rt wr h1 h3 (hT.1.len.trans hI.below.len.symm) hI.below.words hT.1.words (notB_le _)).mono ?_
  rintro e w' ⟨rfl, m2, n2⟩
  have m3 : Mod [o, nth ps 0] wr w' := m2.mono (by simp)
  refine ⟨_, rfl, X.upd (i := 0) (by omega) (by rw [X.x0]; exact m3) (by rw [X.x0]; exact n2) (.inl rfl) (fun j L hj h => ⟨fun h1 => absurd h1 hj, h.2.1, fun h1 => (h.2.2 h1).1⟩) ⟨fun _ => ?_, fun h1 h2 => by omega, fun h => by omega⟩, RowsKept.of h1 m3⟩
  rcases selW_cases (notB (eqB kk 0)) L Lt with ⟨h5, h6⟩ | ⟨h5, h6⟩
  · rw [h6]
    have : kk = 0 := by
      apply Classical.byContradiction
      intro h9
      rw [eqB_ne h9] at h5
      simp [notB] at h5
    rw [this, Nat.pow_zero, Nat.mul_one]; exact hI
  · rw [h6]
    refine hT.2 ?_
    intro h9
    rw [h9] at h5
    simp [eqB, notB] at h5
end
end Go.Proofs.YtkhopfobjijnlaaGreatDoor
