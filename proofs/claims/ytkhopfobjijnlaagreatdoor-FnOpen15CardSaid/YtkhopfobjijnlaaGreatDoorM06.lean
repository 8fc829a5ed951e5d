/- What the twins of bigmod's montgomeryMul share: the calls of addMulVVW and copy in its loop. bigmod's montgomeryMul at moduli of any other number of words. Printed by wip/mk/mont.py. -/
import Derived.Test.YtkhopfobjijnlaaGreatDoorM05
set_option linter.all false
namespace Go.Proofs.YtkhopfobjijnlaaGreatDoor
open Go.RowKit

theorem mulC_congr {Z X X' : List Nat} {oz y : Nat} : ∀ i, (∀ j, j < i → nth X j = nth X' j) → mulC Z X oz 0 y i = mulC Z X' oz 0 y i := by
  intro i
  induction i with
  | zero => intro _; rfl
  | succ i ih => intro h; simp only [mulC]; rw [ih (fun j hj => h j (by omega)), Nat.zero_add, h i (by omega)]
theorem mulL_congr {Z X X' : List Nat} {oz y : Nat} : ∀ i, (∀ j, j < i → nth X j = nth X' j) → mulL Z X oz 0 y i = mulL Z X' oz 0 y i := by
  intro i
  induction i with
  | zero => intro _; rfl
  | succ i ih => intro h; simp only [mulL]; rw [ih (fun j hj => h j (by omega)), mulC_congr i (fun j hj => h j (by omega)), Nat.zero_add, h i (by omega)]

theorem words_left {L R : List Nat} (h : Words L) (i : Nat) (hi : i < L.length) : nth (L ++ R) i < W := by
  rw [nth_append_left hi]; exact h.nth i

/-- addMulVVW with a row whose announced words are all words; what stands behind them does not matter. -/
theorem c_addMul (bz oz cz x bx cx y : Nat) (Z X R : List Nat) (w : World) (hz : Blk w bz 98 (Z.map u64)) (hx : NatIs w x bx X R) (hne : bx ≠ bz) (hn : 0 < X.length)
    (hoz : oz + X.length ≤ Z.length) (wZ : Words Z) (wX : Words X) (hy : y < W) (hbig : Z.length ≤ 100000) :
    Calls Tryz.prog 98 #[sl bz oz X.length cz, sl bx 0 X.length cx, u64 y] w fun e w' =>
      e = .returned (u64 (mulC Z X oz 0 y X.length)) ∧ Mod [bz] w w' ∧ Blk w' bz 98 ((mulL Z X oz 0 y X.length).map u64) := by
  have h0 : ∀ j, j < X.length → nth (X ++ R) j = nth X j := fun j hj => nth_append_left hj
  have := c_addMulVVW bz oz X.length cz bx 0 X.length cx y Z (X ++ R) w hz hx.row hne hn (Nat.le_refl _) hoz (by simp) wZ (fun j hj => by rw [Nat.zero_add]; exact words_left wX j hj) hy (by omega)
  rw [mulC_congr X.length h0, mulL_congr X.length h0] at this
  exact this

/-- copy(x.limbs, T[o:]) where x has n words and T that many from o on. -/
theorem copy_nat_off {w : World} {x p q o : Nat} {L R V M : List Nat} (h : NatIs w x p L R) (hq : Blk w q 98 (V.map u64)) (hl : M.length = L.length) (ho : o + M.length ≤ V.length)
    (hM : ∀ j, j < M.length → nth V (o + j) = nth M j) (c c' sn : Nat) (hsn : M.length ≤ sn) (ts : Nat) :
    ∃ w1, (∀ ty, (Builtin.copy_ #[97, ts] ty #[sl p 0 L.length c, sl q o sn c']).run Tryz.prog w = .ok (goInt M.length) w1) ∧ Mod [p] w w1 ∧ NatIs w1 x p M R := by
  have hsrc : ∀ j v, (M.map u64)[j]? = some v → w.cell? ((⟨q, o, none⟩ : Addr).add j) = some v := by
    intro j v hj
    rw [add_addr]
    have hjl : j < M.length := by simpa using (List.getElem?_eq_some_iff.1 hj).1
    rw [map_get hjl] at hj
    rw [hq.at (o + j) (by omega), hM j hjl]
    exact hj
  have hrun := fun ty => run_copy_cells (P := Tryz.prog) (ty := ty) (t' := ts) Tryz.underlying97 size_uint h.row 0 L.length c ⟨q, o, none⟩ sn c' (us := M.map u64)
    (by rw [List.length_map, ← hl]; exact (Nat.min_eq_right hsn).symm) hsrc (by simp; omega) (oneCell_map u64 (fun _ => rfl) M)
  simp only [List.length_map] at hrun
  have hs : splice' ((L ++ R).map u64) (M.map u64) 0 = (M ++ R).map u64 := by rw [splice_map, take_copy L R M hl]
  rw [hs] at hrun
  exact ⟨_, hrun, (Mod.refl _ w).setRow _ _ (by simp), h.put hl (Go.setRow_other _ _ _ _ h.ne) (h.row.setRow _)⟩

/-- A piece of a row as a row. -/
def piece (V : List Nat) (o n : Nat) : List Nat := (V.drop o).take n
theorem piece_length {V : List Nat} {o n : Nat} (h : o + n ≤ V.length) : (piece V o n).length = n := by simp [piece]; omega
theorem piece_nth {V : List Nat} {o n j : Nat} (hj : j < n) : nth (piece V o n) j = nth V (o + j) := by
  simp [piece, nth, hj]
theorem piece_words {V : List Nat} (h : Words V) (o n : Nat) : Words (piece V o n) := (h.drop o).take n
theorem piece_val {V : List Nat} {o n : Nat} (h : o + n ≤ V.length) : val (piece V o n) = seg V o n := by
  have e : seg V o n = seg (piece V o n) 0 n := seg_congr n fun j hj => by rw [Nat.zero_add, piece_nth hj]
  rw [e, seg_whole _ _ (by rw [piece_length h]; omega), List.take_of_length_le (by rw [piece_length h]; omega)]

/-- What a Montgomery multiplication gives: below the modulus, and times R what the two numbers are multiplied. -/
structure MontIs (X A B M : List Nat) : Prop where
  below : Below' X M
  eq : (val X * W ^ M.length) % val M = (val A * val B) % val M

/-- A row of zeros. -/
def zrow (c : Nat) : List Nat := List.replicate c 0
theorem zrow_length (c : Nat) : (zrow c).length = c := by simp [zrow]
theorem zrow_words (c : Nat) : Words (zrow c) := Words.replicate0 c
theorem zrow_take (c n : Nat) : val ((zrow c).take n) = 0 := by simp [zrow, val_replicate0]

theorem mont_done {c k : Nat} {A B M X : List Nat} (hA : Words A) (hB : Words B) (hM : Words M) (hn : 0 < M.length) (hal : A.length = M.length) (hbl : B.length = M.length)
    (hk : (k * nth M 0) % W = W - 1) (hc : 2 * M.length ≤ c) (hX : Below' X M) (hv : val X = (val (piece (mRow (zrow c) A B M k M.length M.length) M.length M.length) + W ^ M.length * mCar (zrow c) A B M k M.length M.length) % val M) :
    MontIs X A B M := by
  refine ⟨hX, ?_⟩
  refine mont_eq (Z := zrow c) (k := k) (zrow_words c) hA hB hM hn hal hbl rfl hk (by rw [zrow_length]; exact hc) (zrow_take c _) ?_
  rw [hv, piece_val (by rw [mRow_length, zrow_length]; omega)]
  rfl

theorem mont_bound {c k : Nat} {A B M : List Nat} (hA : Words A) (hB : Words B) (hM : Words M) (hn : 0 < M.length) (hal : A.length = M.length)
    (hk : (k * nth M 0) % W = W - 1) (hc : 2 * M.length ≤ c) (hlt : val A < val M) :
    val (piece (mRow (zrow c) A B M k M.length M.length) M.length M.length) + W ^ M.length * mCar (zrow c) A B M k M.length M.length < 2 * val M := by
  have := mU_lt (Z := zrow c) (k := k) (B := B) (zrow_words c) hA hB hM hn hal rfl hk (by rw [zrow_length]; exact hc) (zrow_take c _) (by omega) M.length (Nat.le_refl _)
  rw [piece_val (by rw [mRow_length, zrow_length]; omega)]
  unfold mU at this
  omega

theorem mul_word (a b : Nat) : IntKind.u64.wrap ((a : Int) * (b : Int)) = ((a * b % W : Nat) : Int) := by
  rw [← Int.natCast_mul, wrapW]


section
variable {Z A B M Ra Q : List Nat} {k n j : Nat}
/-- The round's first row: the digit of b times a. -/
theorem c_mul1 (bT a pa cz cx : Nat) (w : World) (hT : Blk w bT 98 ((mRow Z A B M k n j).map u64)) (ha : NatIs w a pa A Ra) (hne : pa ≠ bT) (hal : A.length = n) (hn : 0 < n)
    (hoz : j + n ≤ Z.length) (wZ : Words Z) (wA : Words A) (wB : Words B) (hbig : Z.length ≤ 100000) :
    Calls Tryz.prog 98 #[sl bT j n cz, sl pa 0 n cx, u64 (nth B j)] w fun e w' =>
      e = .returned (u64 (mCar1 Z A B M k n j)) ∧ Mod [bT] w w' ∧ Blk w' bT 98 ((mRow1 Z A B M k n j).map u64) := by
  subst hal
  exact c_addMul bT j cz a pa cx (nth B j) (mRow Z A B M k A.length j) A Ra w hT ha hne hn (by rw [mRow_length]; exact hoz) (mRow_words wZ j) wA (wB.nth j) (by rw [mRow_length]; exact hbig)
/-- The round's second row: the word Y times m. -/
theorem c_mul2 (bT y q cz cx : Nat) (w : World) (hT : Blk w bT 98 ((mRow1 Z A B M k n j).map u64)) (hy : NatIs w y q M Q) (hne : q ≠ bT) (hml : M.length = n) (hn : 0 < n)
    (hoz : j + n ≤ Z.length) (wZ : Words Z) (wM : Words M) (hbig : Z.length ≤ 100000) :
    Calls Tryz.prog 98 #[sl bT j n cz, sl q 0 n cx, u64 (mY Z A B M k n j)] w fun e w' =>
      e = .returned (u64 (mCar2 Z A B M k n j)) ∧ Mod [bT] w w' ∧ Blk w' bT 98 ((mRow2 Z A B M k n j).map u64) := by
  subst hml
  exact c_addMul bT j cz y q cx (mY Z A B M k M.length j) (mRow1 Z A B M k M.length j) M Q w hT hy hne hn (by rw [mRow1_length]; exact hoz) (mRow1_words wZ j) wM (mY_lt j) (by rw [mRow1_length]; exact hbig)
theorem mY_word : IntKind.u64.wrap ((nth (mRow1 Z A B M k n j) j : Int) * (k : Int)) = ((mY Z A B M k n j : Nat) : Int) := mul_word _ _
theorem row_next {w : World} {bT : Nat} (h : Blk w bT 98 ((mRow2 Z A B M k n j).map u64)) :
    Blk (w.setCell ⟨bT, n + j, none⟩ (u64 (addLo (mCar1 Z A B M k n j) (mCar2 Z A B M k n j) (mCar Z A B M k n j)))) bT 98 ((mRow Z A B M k n (j + 1)).map u64) := h.set _ _
end

end Go.Proofs.YtkhopfobjijnlaaGreatDoor
namespace Go.Proofs.YtkhopfobjijnlaaGreatDoor
open Go.RowKit

set_option maxRecDepth 4000000 in
set_option maxHeartbeats 4000000 in
theorem c_mont_any (n : Nat) (hn : 0 < n) (hnb : n ≤ 20000) (g16 : ((n : Int) == 16) = false) (g24 : ((n : Int) == 24) = false) (g32 : ((n : Int) == 32) = false) (x px a pa b pb m y q k : Nat) (odd : Bool) (r : Value) (L R A Ra B Rb M Q : List Nat) (w : World) (hx : NatIs w x px L R) (ha : NatIs w a pa A Ra) (hb : NatIs w b pb B Rb) (hm : MHead w m y odd k r) (hy : NatIs w y q M Q)
    (hal : A.length = n) (hbl : B.length = n) (hml : M.length = n) (wA : Words A) (wB : Words B) (wM : Words M) (hlt0 : val A < val M) (hk : (k * nth M 0) % W = W - 1) (hyx : y ≠ x) (hq : q ≠ px) :
    Calls Tryz.prog 89 #[ptr x, ptr a, ptr b, ptr m] w fun e w' =>
      ∃ p' X R', e = .returned (ptr x) ∧ Mod [x, px] w w' ∧ NatIs w' x p' X R' ∧ Kept w px p' ∧ MontIs X A B M := by
  have hca := ha.cell
  have hcb := hb.cell
  have hcy := hy.cell
  rw [hal] at hca
  rw [hbl] at hcb
  rw [hml] at hcy
  have hcm := hm.c0
  have hcapa := ha.cap; have hcapb := hb.cap; have hcapy := hy.cap
  have lx := hx.xlt; have lpx := hx.plt; have lpa := ha.plt; have lpb := hb.plt; have lq := hy.plt; have lm := hm.lt; have ly := hy.xlt
  have HA := hide hal; have HB := hide hbl; have HM := hide hml
  have HK := hide hk
  clear hal hbl hml hk
  obtain ⟨c, hc⟩ : ∃ c : Nat, c = max 64 (2 * n) := ⟨_, rfl⟩
  have HC := hide hc
  have hmk1 : ∀ w, (Instr.makeSlice 97 (.int .i64 0) (.int .i64 64)).run Tryz.prog w = .ok (sl w.heap.size 0 0 64) (w.alloc (.cells ((zrow 64).map u64).toArray 98)) := make_uint 0 64 (by omega) (by omega)
  have hmk2 := make_uint 0 (2 * n) (by omega) (by omega)
  have hmk2' : ∀ w, (Instr.makeSlice 97 (.int .i64 0) (.int .i64 ((n : Int) * 2))).run Tryz.prog w = .ok (sl w.heap.size 0 0 (2 * n)) (w.alloc (.cells ((zrow (2 * n)).map u64).toArray 98)) := by
    intro w
    have := hmk2 w
    rw [show (((2 * n : Nat)) : Int) = (n : Int) * 2 by omega] at this
    exact this
  clear hmk2
  generalize hr1 : ((zrow 64).map u64).toArray = row1 at hmk1
  generalize hr2 : ((zrow (2 * n)).map u64).toArray = row2 at hmk2'
  have HR1 := hide hr1; have HR2 := hide hr2
  clear hr1 hr2
  have hmk1' : ∀ w, (Instr.makeSlice 97 (.int .i64 0) (.int .i64 64)).run Tryz.prog w = .ok (sl w.heap.size 0 0 64) (w.alloc (.cells row1 98)) := hmk1
  clear hmk1
  by_cases hbig : 64 < 2 * n
  · obtain rfl : c = 2 * n := by omega
    clear hc
    have hdec : decide ((64 : Int) < (n : Int) * 2) = true := by simp; omega
    have hT : Blk ((w.alloc (.cells row1 98)).alloc (.cells row2 98)) (w.heap.size + 1) 98 ((zrow (2 * n)).map u64) := by
      rw [← HR2.out]
      have := Blk.new (w.alloc (.cells row1 98)) 98 ((zrow (2 * n)).map u64)
      simpa using this
    have hM0 : Mod [] w ((w.alloc (.cells row1 98)).alloc (.cells row2 98)) := ((Mod.refl [] w).alloc _).alloc _
    go_enter Tryz.func89, Tryz.ntmps89
    go_wp2_with fail
    go_loopw [14, 15] (fun c i wr => ∃ j : Nat, j ≤ n ∧ i = i64 j ∧ c = u64 (mCar (zrow (2 * n)) A B M k n j) ∧ Mod [] w wr ∧ Blk wr (w.heap.size + 1) 98 ((mRow (zrow (2 * n)) A B M k n j).map u64)) (fun _ i _ => n - (intOf i).toNat)
    case atStart => exact ⟨0, Nat.zero_le _, rfl, rfl, hM0, hT⟩
    case round =>
      obtain ⟨j, hj, rfl, rfl, hmod, hTj⟩ := hrel
      have ha0 := ha.mod hmod (by simp) (by simp)
      have hy0 := hy.mod hmod (by simp) (by simp)
      have hx0 := hx.mod hmod (by simp) (by simp)
      have hm0 : MHead wr m y odd k r := Blk.mod hm hmod (by simp)
      have zl : (mRow (zrow (2 * n)) A B M k n j).length = (2 * n) := by rw [mRow_length, zrow_length]
      by_cases hlt : j < n
      · have hb1 : wr.cell? ⟨pb, j, none⟩ = some (u64 (nth B j)) := (hb.mod hmod (by simp) (by simp)).at j (by rw [HB.out]; exact hlt)
        have ht1 : wr.cell? ⟨(w.heap.size + 1), n + j, none⟩ = some (u64 (nth (mRow (zrow (2 * n)) A B M k n j) (n + j))) := hTj.at (n + j) (by rw [zl]; omega)
        have hcj : ¬ (2 * n) = j := by omega
        have hcar := mCar_le (Z := (zrow (2 * n))) (A := A) (B := B) (M := M) (k := k) (n := n) j
        clear zl
        go_wp2_with fail
        refine (c_mul1 (k := k) (M := M) (w.heap.size + 1) a pa _ _ _ hTj ha0 (by omega) HA.out (by omega) (by rw [zrow_length]; omega) (zrow_words _) wA wB (by rw [zrow_length]; omega)).mono ?_
        rintro e w1 ⟨rfl, m1, hT1⟩
        have hm1' : MHead w1 m y odd k r := Blk.mod hm0 m1 (by simp <;> omega)
        have hck := hm1'.c2
        have hy1 := hy0.mod m1 (by simp <;> omega) (by simp <;> omega)
        have ht2 : w1.cell? ⟨(w.heap.size + 1), j, none⟩ = some (u64 (nth (mRow1 (zrow (2 * n)) A B M k n j) j)) := hT1.at j (by rw [mRow1_length, zrow_length]; omega)
        have hY := mY_word (Z := (zrow (2 * n))) (A := A) (B := B) (M := M) (k := k) (n := n) (j := j)
        clear ht1 hb1
        go_wp2_with fail
        go_quiet (fail)
        go_wp2_with fail
        refine (c_mul2 (w.heap.size + 1) y q _ _ _ (hT1.drewN nq) (hy1.drewN nq) (by omega) HM.out (by omega) (by rw [zrow_length]; omega) (zrow_words _) wM (by rw [zrow_length]; omega)).mono ?_
        rintro e w2 ⟨rfl, m2, hT2⟩
        have ht3 : w2.cell? ⟨(w.heap.size + 1), n + j, none⟩ = some (u64 (nth (mRow2 (zrow (2 * n)) A B M k n j) (n + j))) := hT2.at (n + j) (by rw [mRow2_length, zrow_length]; omega)
        have hf3 := hT2.frozen (n + j)
        have hm3 : Mod [] w (w2.setCell ⟨(w.heap.size + 1), n + j, none⟩ (u64 (addLo (mCar1 (zrow (2 * n)) A B M k n j) (mCar2 (zrow (2 * n)) A B M k n j) (mCar (zrow (2 * n)) A B M k n j)))) :=
          (Mod.trans (U := []) hmod (Mod.trans (U := [(w.heap.size + 1)]) m1 m2.ofDrewN (by simp) (by simp)) (by simp) (by simp <;> omega)).setCell _ _ (by simp <;> omega)
        have hT3 := row_next hT2
        clear hmod m1 m2 hTj hT1 hT2 ht2 hck hY
        go_wp2_with fail
        refine (c_Add _ _ _ hcar _).mono ?_; rintro e w' ⟨rfl, rfl⟩
        go_wp2_with fail
        go_roundw
        case rel => exact ⟨j + 1, by omega, by go_num, rfl, hm3, hT3⟩
        case measure => simp [intOf]; omega
      · obtain rfl : n = j := by omega
        have hcar := mCar_le (Z := (zrow (2 * n))) (A := A) (B := B) (M := M) (k := k) (n := n) n
        have hg1 : ¬ (2 * n) = n := by omega
        have hmx : m ≠ x := Blk.ne hm hx.head (by decide)
        have hmp : m ≠ px := Blk.ne hm hx.row (by decide)
        have hyp : y ≠ px := hy.head.ne hx.row (by decide)
        have hqx : q ≠ x := hy.row.ne hx.head (by decide)
        have hPl : (piece (mRow (zrow (2 * n)) A B M k n n) n n).length = n := piece_length (by rw [mRow_length, zrow_length]; omega)
        have HPl := hide hPl
        clear hPl
        go_wp2_with fail
        go_region_with ((go_at_call 104; refine (c_reset x px n L R _ hx0.drew (by omega)).mono ?_; rintro e w5 ⟨p5, R5, rfl, m5, hx5, k5⟩; have hT5 : Blk w5 (w.heap.size + 1) 98 _ := hTj.drew.mod m5 (by simp <;> omega); obtain ⟨w6, hcp, m6, hx6⟩ := copy_nat_off (M := piece (mRow (zrow (2 * n)) A B M k n n) n n) hx5 hT5 (by rw [HPl.out]; simp) (by rw [HPl.out, mRow_length, zrow_length]; omega) (fun j hj => (piece_nth (by rw [HPl.out] at hj; exact hj)).symm) (n + R5.length) ((2 * n) - n) (n * 2 - n) (by rw [HPl.out]; omega) 97; have hc5 := hx5.cell; rw [HPl.out] at hcp; simp only [List.length_replicate] at hcp hc5))
        all_goals
          have M06 : Mod [x, px] w w6 := Mod.trans (U := [x, px]) (Mod.trans (U := [x, px]) hmod m5.ofDrew (by simp) (by simp)) m6 (fun a ha _ => ha) (fun a ha hl => by
            have h0 := hmod.size
            rcases k5 with h | h
            · simp at ha; simp [ha, h]
            · simp at ha; simp at h; omega)
          have kk : Kept w px p5 := by
            have h0 := hmod.size
            rcases k5 with h | h
            · exact .inl h
            · simp at h; exact .inr (by omega)
          have hm6 : MHead w6 m y odd k r := Blk.mod hm M06 (by simp <;> omega)
          have hy6 := hy.mod M06 (by simp <;> omega) (by simp <;> omega)
          clear m5 m6 k5 hcp hc5 hT5 hx5
          go_wp2_with fail
          refine (c_maybeSub x p5 m y q k _ odd r _ R5 M Q _ hx6 hm6 hy6 (piece_words (mRow_words (zrow_words _) _) _ _) wM (by rw [HPl.out]; exact HM.out) hcar
            (by have h := mont_bound (c := (2 * n)) (k := k) wA wB wM (by rw [HM.out]; omega) (by rw [HM.out]; exact HA.out) HK.out (by rw [HM.out]; omega) hlt0; rw [HM.out] at h; rw [HPl.out]; exact h)).mono ?_
          rintro e w7 ⟨L', rfl, m7, hx7, hbe, hv⟩
          have hfin : MontIs L' A B M := mont_done (c := (2 * n)) (k := k) wA wB wM (by rw [HM.out]; omega) (by rw [HM.out]; exact HA.out) (by rw [HM.out]; exact HB.out) HK.out (by rw [HM.out]; omega) hbe
            (by rw [HPl.out] at hv; rw [HM.out]; exact hv)
          have M07 : Mod [x, px] w w7 := Mod.trans (U := [x, px]) M06 m7 (fun a ha _ => ha) (fun a ha hl => by
            rcases kk with h | h
            · simp at ha; simp [ha, h]
            · simp at ha; omega)
          clear hv hx6 hm6 hy6 M06 m7 hbe
          go_wp2_with fail
          go_ret
          exact ⟨p5, L', R5, rfl, M07, hx7, kk, hfin⟩
  · obtain rfl : c = 64 := by omega
    clear hc
    have hdec : decide ((64 : Int) < (n : Int) * 2) = false := by simp; omega
    have hT : Blk (w.alloc (.cells row1 98)) w.heap.size 98 ((zrow 64).map u64) := by
      rw [← HR1.out]
      exact Blk.new w _ _
    have hM0 : Mod [] w (w.alloc (.cells row1 98)) := (Mod.refl [] w).alloc _
    go_enter Tryz.func89, Tryz.ntmps89
    go_wp2_with fail
    go_loopw [14, 15] (fun c i wr => ∃ j : Nat, j ≤ n ∧ i = i64 j ∧ c = u64 (mCar (zrow 64) A B M k n j) ∧ Mod [] w wr ∧ Blk wr w.heap.size 98 ((mRow (zrow 64) A B M k n j).map u64)) (fun _ i _ => n - (intOf i).toNat)
    case atStart => exact ⟨0, Nat.zero_le _, rfl, rfl, hM0, hT⟩
    case round =>
      obtain ⟨j, hj, rfl, rfl, hmod, hTj⟩ := hrel
      have ha0 := ha.mod hmod (by simp) (by simp)
      have hy0 := hy.mod hmod (by simp) (by simp)
      have hx0 := hx.mod hmod (by simp) (by simp)
      have hm0 : MHead wr m y odd k r := Blk.mod hm hmod (by simp)
      have zl : (mRow (zrow 64) A B M k n j).length = 64 := by rw [mRow_length, zrow_length]
      by_cases hlt : j < n
      · have hb1 : wr.cell? ⟨pb, j, none⟩ = some (u64 (nth B j)) := (hb.mod hmod (by simp) (by simp)).at j (by rw [HB.out]; exact hlt)
        have ht1 : wr.cell? ⟨w.heap.size, n + j, none⟩ = some (u64 (nth (mRow (zrow 64) A B M k n j) (n + j))) := hTj.at (n + j) (by rw [zl]; omega)
        have hcj : ¬ 64 = j := by omega
        have hcar := mCar_le (Z := (zrow 64)) (A := A) (B := B) (M := M) (k := k) (n := n) j
        clear zl
        go_wp2_with fail
        refine (c_mul1 (k := k) (M := M) w.heap.size a pa _ _ _ hTj ha0 (by omega) HA.out (by omega) (by rw [zrow_length]; omega) (zrow_words _) wA wB (by rw [zrow_length]; omega)).mono ?_
        rintro e w1 ⟨rfl, m1, hT1⟩
        have hm1' : MHead w1 m y odd k r := Blk.mod hm0 m1 (by simp <;> omega)
        have hck := hm1'.c2
        have hy1 := hy0.mod m1 (by simp <;> omega) (by simp <;> omega)
        have ht2 : w1.cell? ⟨w.heap.size, j, none⟩ = some (u64 (nth (mRow1 (zrow 64) A B M k n j) j)) := hT1.at j (by rw [mRow1_length, zrow_length]; omega)
        have hY := mY_word (Z := (zrow 64)) (A := A) (B := B) (M := M) (k := k) (n := n) (j := j)
        clear ht1 hb1
        go_wp2_with fail
        go_quiet (fail)
        go_wp2_with fail
        refine (c_mul2 w.heap.size y q _ _ _ (hT1.drewN nq) (hy1.drewN nq) (by omega) HM.out (by omega) (by rw [zrow_length]; omega) (zrow_words _) wM (by rw [zrow_length]; omega)).mono ?_
        rintro e w2 ⟨rfl, m2, hT2⟩
        have ht3 : w2.cell? ⟨w.heap.size, n + j, none⟩ = some (u64 (nth (mRow2 (zrow 64) A B M k n j) (n + j))) := hT2.at (n + j) (by rw [mRow2_length, zrow_length]; omega)
        have hf3 := hT2.frozen (n + j)
        have hm3 : Mod [] w (w2.setCell ⟨w.heap.size, n + j, none⟩ (u64 (addLo (mCar1 (zrow 64) A B M k n j) (mCar2 (zrow 64) A B M k n j) (mCar (zrow 64) A B M k n j)))) :=
          (Mod.trans (U := []) hmod (Mod.trans (U := [w.heap.size]) m1 m2.ofDrewN (by simp) (by simp)) (by simp) (by simp <;> omega)).setCell _ _ (by simp <;> omega)
        have hT3 := row_next hT2
        clear hmod m1 m2 hTj hT1 hT2 ht2 hck hY
        go_wp2_with fail
        refine (c_Add _ _ _ hcar _).mono ?_; rintro e w' ⟨rfl, rfl⟩
        go_wp2_with fail
        go_roundw
        case rel => exact ⟨j + 1, by omega, by go_num, rfl, hm3, hT3⟩
        case measure => simp [intOf]; omega
      · obtain rfl : n = j := by omega
        have hcar := mCar_le (Z := (zrow 64)) (A := A) (B := B) (M := M) (k := k) (n := n) n
        have hg1 : ¬ 64 = n := by omega
        have hmx : m ≠ x := Blk.ne hm hx.head (by decide)
        have hmp : m ≠ px := Blk.ne hm hx.row (by decide)
        have hyp : y ≠ px := hy.head.ne hx.row (by decide)
        have hqx : q ≠ x := hy.row.ne hx.head (by decide)
        have hPl : (piece (mRow (zrow 64) A B M k n n) n n).length = n := piece_length (by rw [mRow_length, zrow_length]; omega)
        have HPl := hide hPl
        clear hPl
        go_wp2_with fail
        go_region_with ((go_at_call 104; refine (c_reset x px n L R _ hx0.drew (by omega)).mono ?_; rintro e w5 ⟨p5, R5, rfl, m5, hx5, k5⟩; have hT5 : Blk w5 w.heap.size 98 _ := hTj.drew.mod m5 (by simp <;> omega); obtain ⟨w6, hcp, m6, hx6⟩ := copy_nat_off (M := piece (mRow (zrow 64) A B M k n n) n n) hx5 hT5 (by rw [HPl.out]; simp) (by rw [HPl.out, mRow_length, zrow_length]; omega) (fun j hj => (piece_nth (by rw [HPl.out] at hj; exact hj)).symm) (n + R5.length) (64 - n) (n * 2 - n) (by rw [HPl.out]; omega) 97; have hc5 := hx5.cell; rw [HPl.out] at hcp; simp only [List.length_replicate] at hcp hc5))
        all_goals
          have M06 : Mod [x, px] w w6 := Mod.trans (U := [x, px]) (Mod.trans (U := [x, px]) hmod m5.ofDrew (by simp) (by simp)) m6 (fun a ha _ => ha) (fun a ha hl => by
            have h0 := hmod.size
            rcases k5 with h | h
            · simp at ha; simp [ha, h]
            · simp at ha; simp at h; omega)
          have kk : Kept w px p5 := by
            have h0 := hmod.size
            rcases k5 with h | h
            · exact .inl h
            · simp at h; exact .inr (by omega)
          have hm6 : MHead w6 m y odd k r := Blk.mod hm M06 (by simp <;> omega)
          have hy6 := hy.mod M06 (by simp <;> omega) (by simp <;> omega)
          clear m5 m6 k5 hcp hc5 hT5 hx5
          go_wp2_with fail
          refine (c_maybeSub x p5 m y q k _ odd r _ R5 M Q _ hx6 hm6 hy6 (piece_words (mRow_words (zrow_words _) _) _ _) wM (by rw [HPl.out]; exact HM.out) hcar
            (by have h := mont_bound (c := 64) (k := k) wA wB wM (by rw [HM.out]; omega) (by rw [HM.out]; exact HA.out) HK.out (by rw [HM.out]; omega) hlt0; rw [HM.out] at h; rw [HPl.out]; exact h)).mono ?_
          rintro e w7 ⟨L', rfl, m7, hx7, hbe, hv⟩
          have hfin : MontIs L' A B M := mont_done (c := 64) (k := k) wA wB wM (by rw [HM.out]; omega) (by rw [HM.out]; exact HA.out) (by rw [HM.out]; exact HB.out) HK.out (by rw [HM.out]; omega) hbe
            (by rw [HPl.out] at hv; rw [HM.out]; exact hv)
          have M07 : Mod [x, px] w w7 := Mod.trans (U := [x, px]) M06 m7 (fun a ha _ => ha) (fun a ha hl => by
            rcases kk with h | h
            · simp at ha; simp [ha, h]
            · simp at ha; omega)
          clear hv hx6 hm6 hy6 M06 m7 hbe
          go_wp2_with fail
          go_ret
          exact ⟨p5, L', R5, rfl, M07, hx7, kk, hfin⟩

end Go.Proofs.YtkhopfobjijnlaaGreatDoor
