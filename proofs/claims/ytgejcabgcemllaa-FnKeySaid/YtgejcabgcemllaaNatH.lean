/- What the twins of bigmod's montgomeryMul share: the calls of addMulVVW and copy in its loop. -/
import Derived.Test.YtgejcabgcemllaaNatG
import Derived.Test.YtgejcabgcemllaaWordsD
namespace Go.Proofs.Ytgejcabgcemllaa
open Go.RowKit

theorem mulC_congr {Z X X' : List Nat} {oz y : Nat} : ∀ i, (∀ j, j < i → nth X j = nth X' j) → mulC Z X oz 0 y i = mulC Z X' oz 0 y i := by
  intro i
  induction i with
  | zero => intro _; rfl
  | succ i ih => intro h; simp only [mulC]; rw [ih (fun j hj => h j (by omega)), Nat.zero_add, h i (by omega)]
theorem mulL_congr {Z X X' : List Nat} {oz y : Nat} : ∀ i, (∀ j, j < i → nth X j = nth X' j) → mulL Z X oz 0 y i = mulL Z X' oz 0 y i := by
  intro i
  induction i with
  | zero => intro _; rfl
  | succ i ih => intro h; simp only [mulL]; rw [ih (fun j hj => h j (by omega)), mulC_congr i (fun j hj => h j (by omega)), Nat.zero_add, h i (by omega)]

theorem words_left {L R : List Nat} (h : Words L) (i : Nat) (hi : i < L.length) : nth (L ++ R) i < W := by
  rw [nth_append_left hi]; exact h.nth i

/-- addMulVVW with a row whose announced words are all words; what stands behind them does not matter. -/
theorem c_addMul (bz oz cz x bx cx y : Nat) (Z X R : List Nat) (w : World) (hz : Blk w bz 62 (Z.map u64)) (hx : NatIs w x bx X R) (hne : bx ≠ bz) (hn : 0 < X.length)
    (hoz : oz + X.length ≤ Z.length) (wZ : Words Z) (wX : Words X) (hy : y < W) (hbig : Z.length ≤ 100000) :
    Calls Try.prog 74 #[sl bz oz X.length cz, sl bx 0 X.length cx, u64 y] w fun e w' =>
      e = .returned (u64 (mulC Z X oz 0 y X.length)) ∧ Mod [bz] w w' ∧ Blk w' bz 62 ((mulL Z X oz 0 y X.length).map u64) := by
  have h0 : ∀ j, j < X.length → nth (X ++ R) j = nth X j := fun j hj => nth_append_left hj
  have := c_addMulVVW bz oz X.length cz bx 0 X.length cx y Z (X ++ R) w hz hx.row hne hn (Nat.le_refl _) hoz (by simp) wZ (fun j hj => by rw [Nat.zero_add]; exact words_left wX j hj) hy (by omega)
  rw [mulC_congr X.length h0, mulL_congr X.length h0] at this
  exact this

/-- copy(x.limbs, T[o:]) where x has n words and T that many from o on. -/
theorem copy_nat_off {w : World} {x p q o : Nat} {L R V M : List Nat} (h : NatIs w x p L R) (hq : Blk w q 62 (V.map u64)) (hl : M.length = L.length) (ho : o + M.length ≤ V.length)
    (hM : ∀ j, j < M.length → nth V (o + j) = nth M j) (c c' sn : Nat) (hsn : M.length ≤ sn) (ts : Nat) :
    ∃ w1, (∀ ty, (Builtin.copy_ #[61, ts] ty #[sl p 0 L.length c, sl q o sn c']).run Try.prog w = .ok (goInt M.length) w1) ∧ Mod [p] w w1 ∧ NatIs w1 x p M R := by
  have hsrc : ∀ j v, (M.map u64)[j]? = some v → w.cell? ((⟨q, o, none⟩ : Addr).add j) = some v := by
    intro j v hj
    rw [add_addr]
    have hjl : j < M.length := by simpa using (List.getElem?_eq_some_iff.1 hj).1
    rw [map_get hjl] at hj
    rw [hq.at (o + j) (by omega), hM j hjl]
    exact hj
  have hrun := fun ty => run_copy_cells (P := Try.prog) (ty := ty) (t' := ts) Try.underlying61 size_uint h.row 0 L.length c ⟨q, o, none⟩ sn c' (us := M.map u64)
    (by rw [List.length_map, ← hl]; exact (Nat.min_eq_right hsn).symm) hsrc (by simp; omega) (oneCell_map u64 (fun _ => rfl) M)
  simp only [List.length_map] at hrun
  have hs : splice' ((L ++ R).map u64) (M.map u64) 0 = (M ++ R).map u64 := by rw [splice_map, take_copy L R M hl]
  rw [hs] at hrun
  exact ⟨_, hrun, (Mod.refl _ w).setRow _ _ (by simp), h.put hl (Go.setRow_other _ _ _ _ h.ne) (h.row.setRow _)⟩

/-- A piece of a row as a row. -/
def piece (V : List Nat) (o n : Nat) : List Nat := (V.drop o).take n
theorem piece_length {V : List Nat} {o n : Nat} (h : o + n ≤ V.length) : (piece V o n).length = n := by simp [piece]; omega
theorem piece_nth {V : List Nat} {o n j : Nat} (hj : j < n) : nth (piece V o n) j = nth V (o + j) := by
  simp [piece, nth, hj]
theorem piece_words {V : List Nat} (h : Words V) (o n : Nat) : Words (piece V o n) := (h.drop o).take n
theorem piece_val {V : List Nat} {o n : Nat} (h : o + n ≤ V.length) : val (piece V o n) = seg V o n := by
  have e : seg V o n = seg (piece V o n) 0 n := seg_congr n fun j hj => by rw [Nat.zero_add, piece_nth hj]
  rw [e, seg_whole _ _ (by rw [piece_length h]; omega), List.take_of_length_le (by rw [piece_length h]; omega)]

/-- What a Montgomery multiplication gives: below the modulus, and times R what the two numbers are multiplied. -/
structure MontIs (X A B M : List Nat) : Prop where
  below : Below' X M
  eq : (val X * W ^ M.length) % val M = (val A * val B) % val M

/-- A row of zeros. -/
def zrow (c : Nat) : List Nat := List.replicate c 0
theorem zrow_length (c : Nat) : (zrow c).length = c := by simp [zrow]
theorem zrow_words (c : Nat) : Words (zrow c) := Words.replicate0 c
theorem zrow_take (c n : Nat) : val ((zrow c).take n) = 0 := by simp [zrow, val_replicate0]

theorem mont_done {c k : Nat} {A B M X : List Nat} (hA : Words A) (hB : Words B) (hM : Words M) (hn : 0 < M.length) (hal : A.length = M.length) (hbl : B.length = M.length)
    (hk : (k * nth M 0) % W = W - 1) (hc : 2 * M.length ≤ c) (hX : Below' X M) (hv : val X = (val (piece (mRow (zrow c) A B M k M.length M.length) M.length M.length) + W ^ M.length * mCar (zrow c) A B M k M.length M.length) % val M) :
    MontIs X A B M := by
  refine ⟨hX, ?_⟩
  refine mont_eq (Z := zrow c) (k := k) (zrow_words c) hA hB hM hn hal hbl rfl hk (by rw [zrow_length]; exact hc) (zrow_take c _) ?_
  rw [hv, piece_val (by rw [mRow_length, zrow_length]; omega)]
  rfl

theorem mont_bound {c k : Nat} {A B M : List Nat} (hA : Words A) (hB : Words B) (hM : Words M) (hn : 0 < M.length) (hal : A.length = M.length)
    (hk : (k * nth M 0) % W = W - 1) (hc : 2 * M.length ≤ c) (hlt : val A < val M) :
    val (piece (mRow (zrow c) A B M k M.length M.length) M.length M.length) + W ^ M.length * mCar (zrow c) A B M k M.length M.length < 2 * val M := by
  have := mU_lt (Z := zrow c) (k := k) (B := B) (zrow_words c) hA hB hM hn hal rfl hk (by rw [zrow_length]; exact hc) (zrow_take c _) (by omega) M.length (Nat.le_refl _)
  rw [piece_val (by rw [mRow_length, zrow_length]; omega)]
  unfold mU at this
  omega

theorem mul_word (a b : Nat) : IntKind.u64.wrap ((a : Int) * (b : Int)) = ((a * b % W : Nat) : Int) := by
  rw [← Int.natCast_mul, wrapW]


section
variable {Z A B M Ra Q : List Nat} {k n j : Nat}
/-- The round's first row: the digit of b times a. -/
theorem c_mul1 (bT a pa cz cx : Nat) (w : World) (hT : Blk w bT 62 ((mRow Z A B M k n j).map u64)) (ha : NatIs w a pa A Ra) (hne : pa ≠ bT) (hal : A.length = n) (hn : 0 < n)
    (hoz : j + n ≤ Z.length) (wZ : Words Z) (wA : Words A) (wB : Words B) (hbig : Z.length ≤ 100000) :
    Calls Try.prog 74 #[sl bT j n cz, sl pa 0 n cx, u64 (nth B j)] w fun e w' =>
      e = .returned (u64 (mCar1 Z A B M k n j)) ∧ Mod [bT] w w' ∧ Blk w' bT 62 ((mRow1 Z A B M k n j).map u64) := by
  subst hal
  exact c_addMul bT j cz a pa cx (nth B j) (mRow Z A B M k A.length j) A Ra w hT ha hne hn (by rw [mRow_length]; exact hoz) (mRow_words wZ j) wA (wB.nth j) (by rw [mRow_length]; exact hbig)
/-- The round's second row: the word Y times m. -/
theorem c_mul2 (bT y q cz cx : Nat) (w : World) (hT : Blk w bT 62 ((mRow1 Z A B M k n j).map u64)) (hy : NatIs w y q M Q) (hne : q ≠ bT) (hml : M.length = n) (hn : 0 < n)
    (hoz : j + n ≤ Z.length) (wZ : Words Z) (wM : Words M) (hbig : Z.length ≤ 100000) :
    Calls Try.prog 74 #[sl bT j n cz, sl q 0 n cx, u64 (mY Z A B M k n j)] w fun e w' =>
      e = .returned (u64 (mCar2 Z A B M k n j)) ∧ Mod [bT] w w' ∧ Blk w' bT 62 ((mRow2 Z A B M k n j).map u64) := by
  subst hml
  exact c_addMul bT j cz y q cx (mY Z A B M k M.length j) (mRow1 Z A B M k M.length j) M Q w hT hy hne hn (by rw [mRow1_length]; exact hoz) (mRow1_words wZ j) wM (mY_lt j) (by rw [mRow1_length]; exact hbig)
theorem mY_word : IntKind.u64.wrap ((nth (mRow1 Z A B M k n j) j : Int) * (k : Int)) = ((mY Z A B M k n j : Nat) : Int) := mul_word _ _
theorem row_next {w : World} {bT : Nat} (h : Blk w bT 62 ((mRow2 Z A B M k n j).map u64)) :
    Blk (w.setCell ⟨bT, n + j, none⟩ (u64 (addLo (mCar1 Z A B M k n j) (mCar2 Z A B M k n j) (mCar Z A B M k n j)))) bT 62 ((mRow Z A B M k n (j + 1)).map u64) := h.set _ _
end

end Go.Proofs.Ytgejcabgcemllaa
