/- Contracts of bigmod's reading of big-endian words, of bitLen, minusInverseModW and errors.New. bigmod's Nat in memory, and contracts of NewNat, reset, set, expand, trim. Contracts of bigmod's set, expand, ExpandFor, resetting by copies. -/
import Derived.Test.YtkhopfobjijnlaaGreatDoorM01
import Derived.Lib.EndianBits
set_option linter.all false
namespace Go.Proofs.YtkhopfobjijnlaaGreatDoor
open Go.RowKit

abbrev u32 (n : Nat) : Value := .int .u32 (n : Int)
def Bytes (B : List Nat) : Prop := ∀ i, nth B i < 256

/-- Four bytes, eight bytes from a place on, the highest first. -/
def be4 (B : List Nat) (o : Nat) : Nat := nth B (o + 3) + nth B (o + 2) * 256 + nth B (o + 1) * 65536 + nth B o * 16777216
def be8 (B : List Nat) (o : Nat) : Nat := be4 B o * 4294967296 + be4 B (o + 4)
theorem be4_lt {B : List Nat} (hB : Bytes B) (o : Nat) : be4 B o < 4294967296 := by
  unfold be4
  have := hB o; have := hB (o + 1); have := hB (o + 2); have := hB (o + 3)
  omega
theorem be8_lt {B : List Nat} (hB : Bytes B) (o : Nat) : be8 B o < W := by
  unfold be8
  have := be4_lt hB o; have := be4_lt hB (o + 4)
  rw [W_eq]
  omega

theorem be4_or (a b c d : Nat) (ha : a < 256) (hb : b < 256) (hc : c < 256) (hd : d < 256) :
    bits .or .u32 (bits .or .u32 (bits .or .u32 (d : Int) ((c : Int) * 256)) ((b : Int) * 65536)) ((a : Int) * 16777216) = ((d + c * 256 + b * 65536 + a * 16777216 : Nat) : Int) := by
  rw [u32_or8 (d : Int) ((c : Int) * 256) (by omega) (by omega) (by omega) (by omega) (by omega), u32_or16 ((d : Int) + (c : Int) * 256) ((b : Int) * 65536) (by omega) (by omega) (by omega) (by omega) (by omega),
    u32_or24 ((d : Int) + (c : Int) * 256 + (b : Int) * 65536) ((a : Int) * 16777216) (by omega) (by omega) (by omega) (by omega) (by omega)]
  omega

set_option maxRecDepth 100000 in
set_option maxHeartbeats 1000000 in
theorem c_be32 (bb o n c T : Nat) (B : List Nat) (w : World) (hb : Blk w bb T (B.map u8)) (hB : Bytes B) (hn : 4 ≤ n) (ho : o + n ≤ B.length) :
    Calls Tryz.prog 120 #[sl bb o n c] w fun e w' => e = .returned (u32 (be4 B o)) ∧ ∃ k, w' = w.drewN k := by
  have h0 := hb.at o (by omega)
  have h1 := hb.at (o + 1) (by omega)
  have h2 := hb.at (o + 2) (by omega)
  have h3 := hb.at (o + 3) (by omega)
  have b0 := hB o; have b1 := hB (o + 1); have b2 := hB (o + 2); have b3 := hB (o + 3)
  have hv := hide (congrArg (Value.int .u32) (be4_or (nth B o) (nth B (o + 1)) (nth B (o + 2)) (nth B (o + 3)) b0 b1 b2 b3))
  have g0 : (3 : Int) < (n : Int) := by omega
  have g1 : (2 : Int) < (n : Int) := by omega
  have g2 : (1 : Int) < (n : Int) := by omega
  have g3 : (0 : Int) < (n : Int) := by omega
  clear hn ho
  go_enter Tryz.func120, Tryz.ntmps120
  go_wp2
  go_quiet (fail)
  go_wp2
  go_ret
  exact ⟨congrArg Ending.returned hv.out, ⟨_, rfl⟩⟩

set_option maxRecDepth 100000 in
set_option maxHeartbeats 1000000 in
theorem c_be64 (bb o n c T : Nat) (B : List Nat) (w : World) (hb : Blk w bb T (B.map u8)) (hB : Bytes B) (hn : 8 ≤ n) (hc : n ≤ c) (ho : o + n ≤ B.length) :
    Calls Tryz.prog 119 #[sl bb o n c] w fun e w' => e = .returned (u64 (be8 B o)) ∧ ∃ k, w' = w.drewN k := by
  have h7 := hb.at (o + 7) (by omega)
  have hlo := be4_lt hB o
  have hhi := be4_lt hB (o + 4)
  have hv : Hid (Value.int .u64 (bits .or .u64 (IntKind.u64.wrap (IntKind.u64.wrap (be4 B o : Int) * 4294967296)) (IntKind.u64.wrap (be4 B (o + 4) : Int))) = u64 (be8 B o)) := by
    have := bits_join .u64 64 (by decide) wraps_u64 32 ((be4 B o : Int) * 4294967296) (be4 B (o + 4) : Int) (by omega) (by omega) (by omega) (by omega) (by omega) (by omega)
    refine hide (congrArg (Value.int .u64) ?_)
    rw [u64_wrap_id (be4 B o : Int) (by omega) (by omega), u64_wrap_id ((be4 B o : Int) * 4294967296) (by omega) (by omega), u64_wrap_id (be4 B (o + 4) : Int) (by omega) (by omega), this]
    unfold be8
    omega
  have g7 : (7 : Int) < (n : Int) := by omega
  have g4 : (4 : Int) ≤ (n : Int) := by omega
  have g4c : ¬ c = 4 := by omega
  have m1 : ∀ k, Blk (w.drewN k) bb T (B.map u8) := fun k => hb.drewN k
  have c1 := fun k => c_be32 bb o n c T B (w.drewN k) (m1 k) hB (by omega) ho
  have c2 := fun k => c_be32 bb (o + 4) (n - 4) (c - 4) T B (w.drewN k) (m1 k) hB (by omega) (by omega)
  have C1 := hide c1
  have C2 := hide c2
  clear c1 c2 m1
  go_enter Tryz.func119, Tryz.ntmps119
  go_wp2
  refine wp_region_quiet_lit (by kernel_rfl) (by kernel_rfl) ?_
  iterate 6 quiet_step ((go_at_call 120; exact Calls.quiet_of (C1.out _)))
  repeat quiet_step ((go_at_call 120; exact Calls.quiet_of (C2.out _)))
  refine wpQuiet_nil ?_
  intro _ hw'
  obtain ⟨nq, hw''⟩ := hw'
  subst hw''
  go_wp2
  go_ret
  exact ⟨congrArg Ending.returned hv.out, ⟨_, rfl⟩⟩

set_option maxRecDepth 100000 in
theorem c_beUint (bb o n c T : Nat) (B : List Nat) (w : World) (hb : Blk w bb T (B.map u8)) (hB : Bytes B) (hn : 8 ≤ n) (hc : n ≤ c) (ho : o + n ≤ B.length) :
    Calls Tryz.prog 110 #[sl bb o n c] w fun e w' => e = .returned (u64 (be8 B o)) ∧ ∃ k, w' = w.drewN k := by
  go_enter Tryz.func110, Tryz.ntmps110
  go_wp2_with fail
  refine (c_be64 bb o n c T B w hb hB hn hc ho).mono ?_; rintro e w' ⟨rfl, k, rfl⟩
  go_wp2_with fail
  go_ret
  exact ⟨rfl, k, rfl⟩

theorem ret_i64 {a b : Nat} (h : a = b) : Ending.returned (i64 a) = Ending.returned (i64 b) := by rw [h]
theorem ret_u64 {a b : Nat} (h : a = b) : Ending.returned (u64 a) = Ending.returned (u64 b) := by rw [h]
theorem blen_zero : blen 0 = 0 := rfl
theorem blen_half {n : Nat} (h : n ≠ 0) : blen n = blen (n / 2) + 1 := by
  unfold blen
  rw [if_neg h]
  by_cases h1 : n / 2 = 0
  · rw [if_pos h1]
    have : n = 1 := by omega
    subst this
    rfl
  · rw [if_neg h1]
    rw [Nat.log2_def]
    rw [if_pos (by omega)]
theorem blen_le {n k : Nat} (h : n < 2 ^ k) : blen n ≤ k := by
  unfold blen
  split
  · omega
  · rename_i h0
    have := (Nat.log2_lt h0).2 h
    omega
theorem blen_word {n : Nat} (h : n < W) : blen n ≤ 64 := blen_le (by rw [W_eq] at h; simpa using h)
theorem blen_pos {n : Nat} (h : n ≠ 0) : 1 ≤ blen n := by rw [blen_half h]; omega

set_option maxRecDepth 100000 in
theorem c_bitLen (n : Nat) (hn : n < W) (w : World) :
    Calls Tryz.prog 86 #[u64 n] w fun e w' => e = .returned (i64 (blen n)) ∧ w = w' := by
  have h64 := blen_word hn
  go_enter Tryz.func86, Tryz.ntmps86
  go_wp2
  go_loop [0, 3] (fun a l => ∃ m k : Nat, a = u64 m ∧ l = i64 k ∧ Hid (blen n = k + blen m) ∧ k ≤ 64) (fun a _ => (intOf a).toNat)
  case atStart => exact ⟨n, 0, rfl, rfl, hide (by omega), by omega⟩
  case round =>
    obtain ⟨m, k, rfl, rfl, hk, hk64⟩ := hrel
    by_cases h0 : m = 0
    · subst h0
      have := hk.out
      have hb : blen n = k := by rw [this, blen_zero]; omega
      have H := hide hb
      clear this hb
      go_wp2
      go_ret
      exact ⟨ret_i64 H.out.symm, rfl⟩
    · have h1 := hk.out
      have hh := blen_half h0
      have hm : ((m : Int) != 0) = true := by simpa using h0
      have hk' : k < 64 := by omega
      have H : Hid (blen n = (k + 1) + blen (m / 2)) := hide (by omega)
      have hlt : Hid (m / 2 < m) := hide (by omega)
      clear h1 hh hk
      go_wp2
      go_round
      case rel => exact ⟨m / 2, k + 1, by first | rfl | (simp; done), by go_num, H, by omega⟩
      case measure => have := hlt.out; simp [intOf]; omega

/-- -x^-1 modulo 2^64, by Newton's way: five steps. -/
def nstep (x y : Nat) : Nat := y * ((W + 2 - x * y % W) % W) % W
def newton (x : Nat) : Nat → Nat
  | 0 => x
  | k + 1 => nstep x (newton x k)
def m0inv (x : Nat) : Nat := (W - newton x 5) % W
theorem newton_lt {x : Nat} (hx : x < W) (k : Nat) : newton x k < W := by
  cases k with
  | zero => exact hx
  | succ k => exact Nat.mod_lt _ W_pos
theorem wrapW (a : Nat) : IntKind.u64.wrap (a : Int) = ((a % W : Nat) : Int) := by rw [IntKind.wrap_u64, W_eq]; omega
theorem wrap_two {z : Nat} (h : z < W) : IntKind.u64.wrap (2 - (z : Int)) = (((W + 2 - z) % W : Nat) : Int) := by
  rw [IntKind.wrap_u64]
  rw [W_eq] at *
  omega
theorem newton_step (x y : Nat) : IntKind.u64.wrap ((y : Int) * IntKind.u64.wrap (2 - IntKind.u64.wrap ((x : Int) * (y : Int)))) = ((nstep x y : Nat) : Int) := by
  rw [← Int.natCast_mul, wrapW, wrap_two (Nat.mod_lt _ W_pos), ← Int.natCast_mul, wrapW]
  rfl
theorem neg_word {y : Nat} (hy : y < W) : IntKind.u64.wrap (-(y : Int)) = (((W - y) % W : Nat) : Int) := by
  rw [IntKind.wrap_u64]
  rw [W_eq] at *
  omega
theorem neg_newton {x : Nat} (hx : x < W) : IntKind.u64.wrap (-(newton x 5 : Int)) = ((m0inv x : Nat) : Int) := neg_word (newton_lt hx 5)

set_option maxRecDepth 100000 in
theorem c_minusInverse (x : Nat) (hx : x < W) (w : World) :
    Calls Tryz.prog 108 #[u64 x] w fun e w' => e = .returned (u64 (m0inv x)) ∧ w = w' := by
  have HX := hide hx
  clear hx
  go_enter Tryz.func108, Tryz.ntmps108
  go_wp2
  go_loop [3, 4] (fun y i => ∃ k : Nat, k ≤ 5 ∧ i = i64 k ∧ y = u64 (newton x k)) (fun _ i => 5 - (intOf i).toNat)
  case atStart => exact ⟨0, by omega, rfl, rfl⟩
  case round =>
    obtain ⟨k, hk, rfl, rfl⟩ := hrel
    by_cases hlt : k < 5
    · have hs := newton_step x (newton x k)
      go_wp2
      go_round
      case rel => exact ⟨k + 1, by omega, by go_num, rfl⟩
      case measure => simp [intOf]; omega
    · obtain rfl : k = 5 := by omega
      have hng := neg_newton HX.out
      clear hlt hk
      go_wp2
      go_ret
      exact ⟨rfl, rfl⟩

end Go.Proofs.YtkhopfobjijnlaaGreatDoor
namespace Go.Proofs.YtkhopfobjijnlaaGreatDoor
open Go.RowKit

/-- Block x is a Nat whose announced words are L, with R behind them up to the capacity; the words lie in block p. -/
structure NatIs (w : World) (x p : Nat) (L R : List Nat) : Prop where
  head : Blk w x 126 [sl p 0 L.length (L.length + R.length)]
  row : Blk w p 98 ((L ++ R).map u64)
  cap : L.length + R.length ≤ 100000

theorem NatIs.cell {w : World} {x p : Nat} {L R : List Nat} (h : NatIs w x p L R) : w.cell? ⟨x, 0, none⟩ = some (sl p 0 L.length (L.length + R.length)) := by
  rw [h.head.cell]; rfl
theorem NatIs.ne {w : World} {x p : Nat} {L R : List Nat} (h : NatIs w x p L R) : x ≠ p := h.head.ne h.row (by decide)
theorem NatIs.xlt {w : World} {x p : Nat} {L R : List Nat} (h : NatIs w x p L R) : x < w.heap.size := h.head.lt
theorem NatIs.plt {w : World} {x p : Nat} {L R : List Nat} (h : NatIs w x p L R) : p < w.heap.size := h.row.lt
theorem NatIs.mod {w w' : World} {x p : Nat} {L R S : List Nat} (h : NatIs w x p L R) (m : Mod S w w') (hx : x ∉ S) (hp : p ∉ S) : NatIs w' x p L R :=
  ⟨h.head.mod m hx, h.row.mod m hp, h.cap⟩
theorem NatIs.drew {w : World} {x p : Nat} {L R : List Nat} (h : NatIs w x p L R) : NatIs w.drew x p L R := ⟨h.head, h.row, h.cap⟩
theorem NatIs.drewN {w : World} {x p : Nat} {L R : List Nat} (h : NatIs w x p L R) (n : Nat) : NatIs (w.drewN n) x p L R := ⟨h.head, h.row, h.cap⟩
/-- A word that is announced. -/
theorem NatIs.at {w : World} {x p : Nat} {L R : List Nat} (h : NatIs w x p L R) (i : Nat) (hi : i < L.length) : w.cell? ⟨p, i, none⟩ = some (u64 (nth L i)) := by
  rw [h.row.at i (by simp; omega), nth_append_left hi]
/-- The words exchanged: another row of as many words. -/
theorem NatIs.put {w w' : World} {x p : Nat} {L R L' : List Nat} (h : NatIs w x p L R) (hl : L'.length = L.length) (hx : w'.heap[x]? = w.heap[x]?)
    (hr : Blk w' p 98 ((L' ++ R).map u64)) : NatIs w' x p L' R := by
  refine ⟨?_, hr, by rw [hl]; exact h.cap⟩
  unfold Blk
  rw [hx, hl]
  exact h.head

theorem zero_uint (w : World) : (zeroValue 98).run Tryz.prog w = .ok (.int .u64 0) w := by kernel_rfl
theorem info_uint : (Tryz.prog.info? 98).map (fun i => (i.zero, i.size, i.bytes)) = some (some (.int .u64 0), 1, 8) := by kernel_rfl
theorem size_uint : (Tryz.prog.info? 98).map (·.size) = some 1 := by kernel_rfl
theorem make_uint (n c : Nat) (hnc : n ≤ c) (hc : c ≤ 17000000) (w : World) :
    (Instr.makeSlice 97 (.int .i64 n) (.int .i64 c)).run Tryz.prog w = .ok (sl w.heap.size 0 n c) (w.alloc (.cells ((List.replicate c 0).map u64).toArray 98)) := by
  rw [run_make_row (z := .int .u64 0) rfl Tryz.underlying97 info_uint (by omega) n c hnc hc w]
  simp [u64]

set_option maxRecDepth 100000 in
theorem c_NewNat (w : World) : Calls Tryz.prog 55 #[] w fun e w' =>
    ∃ x p, e = .returned (ptr x) ∧ Mod [] w w' ∧ NatIs w' x p [] (List.replicate 32 0) ∧ w.heap.size ≤ x ∧ w.heap.size ≤ p := by
  have hmk := make_uint 0 32 (by omega) (by omega)
  generalize hrow : ((List.replicate 32 0).map u64).toArray = row at hmk
  have Hrow := hide hrow
  clear hrow
  have hmk0 : ∀ w, (Instr.makeSlice 97 (.int .i64 0) (.int .i64 32)).run Tryz.prog w = .ok (sl w.heap.size 0 0 32) (w.alloc (.cells row 98)) := hmk
  clear hmk
  go_enter Tryz.func55, Tryz.ntmps55
  go_wp2
  go_ret
  refine ⟨_, w.heap.size, rfl, ((Mod.refl [] w).alloc _).alloc _, ⟨?_, ?_, by simp⟩, by simp, by simp⟩
  · have := Blk.new (w.alloc (.cells row 98)) 126 [sl w.heap.size 0 0 32]
    simpa using this
  · rw [← Hrow.out]
    exact (Blk.new w _ _).alloc _

/-- A row is either where it was or new. -/
def Kept (w : World) (p p' : Nat) : Prop := p' = p ∨ w.heap.size ≤ p'

theorem splice_zero (L R : List Nat) (n m : Nat) (hn : n ≤ m) :
    splice' ((L ++ R).map u64) (List.replicate m (.int .u64 0)) 0 = ((List.replicate n 0) ++ (List.replicate (m - n) 0 ++ (L ++ R).drop m)).map u64 := by
  unfold splice'
  rw [← List.append_assoc, List.replicate_append_replicate]
  rw [show n + (m - n) = m by omega]
  simp [List.map_drop]

theorem clear_nat {w : World} {x p : Nat} {L R : List Nat} (h : NatIs w x p L R) (n m : Nat) (hnm : n ≤ m) (hm : m ≤ L.length + R.length) :
    ∃ w1, (∀ ty, (Builtin.clear_ #[97] ty #[sl p 0 m (L.length + R.length)]).run Tryz.prog w = .ok (.tuple #[]) w1) ∧ Mod [p] w w1 ∧
      Blk w1 x 126 [sl p 0 L.length (L.length + R.length)] ∧ Blk w1 p 98 ((List.replicate n 0 ++ (List.replicate (m - n) 0 ++ (L ++ R).drop m)).map u64) := by
  refine ⟨_, fun ty => run_clear_row (ty := ty) (z := .int .u64 0) rfl rfl Tryz.underlying97 zero_uint h.row 0 m (L.length + R.length) (by simp; omega), (Mod.refl _ w).setRow _ _ (by simp),
    h.head.setRow_other _ _ h.ne, ?_⟩
  have := h.row.splice (List.replicate m (.int .u64 0)) 0
  rwa [splice_zero L R n m hnm] at this ⊢

theorem blk_cell0 {w : World} {b T : Nat} {v : Value} (h : Blk w b T [v]) : w.cell? ⟨b, 0, none⟩ = some v := by rw [h.cell]; rfl

set_option maxRecDepth 100000 in
set_option maxHeartbeats 1600000 in
theorem c_reset (x p n : Nat) (L R : List Nat) (w : World) (h : NatIs w x p L R) (hn : n ≤ 100000) :
    Calls Tryz.prog 104 #[ptr x, i64 n] w fun e w' =>
      ∃ p' R', e = .returned (ptr x) ∧ Mod [x, p] w w' ∧ NatIs w' x p' (List.replicate n 0) R' ∧ Kept w p p' := by
  have hc := h.cell
  have hf := h.head.frozen 0
  have hlt := h.xlt
  have hcap := h.cap
  by_cases hlt : L.length + R.length < n
  · have hmk := make_uint n n (by omega) (by omega)
    generalize hrow : ((List.replicate n 0).map u64).toArray = row at hmk
    have Hrow := hide hrow
    clear hrow
    go_enter Tryz.func104, Tryz.ntmps104
    go_wp2
    go_ret
    refine ⟨w.heap.size, [], rfl, ((Mod.refl _ w).setCell _ _ (by simp)).alloc _, ⟨?_, ?_, by simp; omega⟩, .inr (by omega)⟩
    · have := (h.head.setCell 0 (sl w.heap.size 0 n n)).alloc (.cells row 98)
      simpa using this
    · rw [← Hrow.out]
      have := Blk.new (w.setCell ⟨x, 0, none⟩ (sl w.heap.size 0 n n)) 98 ((List.replicate n 0).map u64)
      simpa using this
  · obtain ⟨m, hm⟩ : ∃ m, m = max n L.length := ⟨_, rfl⟩
    obtain ⟨w1, hcl, hm1, hx1, hp1⟩ := clear_nat h.drew n m (by omega) (by omega)
    have hc1 := blk_cell0 hx1
    have hf1 := hx1.frozen 0
    have hm1' : Mod [p] w w1 := ⟨hm1.os, hm1.tape, hm1.output, hm1.size, hm1.block⟩
    clear hm1
    have hfin : NatIs (w1.setCell ⟨x, 0, none⟩ (sl p 0 n (L.length + R.length))) x p (List.replicate n 0) (List.replicate (m - n) 0 ++ (L ++ R).drop m) := by
      refine ⟨?_, hp1.setCell_other _ _ (by simpa using h.ne.symm), by simp; omega⟩
      have := hx1.setCell 0 (sl p 0 n (L.length + R.length))
      have e : (List.replicate n 0).length + (List.replicate (m - n) 0 ++ (L ++ R).drop m).length = L.length + R.length := by simp; omega
      rw [e]
      simpa using this
    have hmod : Mod [x, p] w (w1.setCell ⟨x, 0, none⟩ (sl p 0 n (L.length + R.length))) :=
      (hm1'.mono (by simp)).setCell _ _ (by simp)
    rcases Nat.lt_or_ge n L.length with hnl | hnl
    · obtain rfl : m = L.length := by omega
      clear hm
      go_enter Tryz.func104, Tryz.ntmps104
      go_wp2
      go_region_with (fail)
      all_goals go_wp2
      all_goals go_ret
      all_goals exact ⟨p, _, rfl, hmod, hfin, .inl rfl⟩
    · obtain rfl : m = n := by omega
      clear hm
      go_enter Tryz.func104, Tryz.ntmps104
      go_wp2
      go_region_with (fail)
      all_goals go_wp2
      all_goals go_ret
      all_goals exact ⟨p, _, rfl, hmod, hfin, .inl rfl⟩

end Go.Proofs.YtkhopfobjijnlaaGreatDoor
namespace Go.Proofs.YtkhopfobjijnlaaGreatDoor
open Go.RowKit

theorem take_copy (L R M : List Nat) (h : M.length = L.length) : (((L ++ R).take 0 ++ M ++ (L ++ R).drop (0 + M.length))) = M ++ R := by
  rw [Nat.zero_add, h, List.drop_left]
  simp

/-- copy(x.limbs, y) where both have as many words. -/
theorem copy_nat {w : World} {x p q : Nat} {L R M Q : List Nat} (h : NatIs w x p L R) (hq : Blk w q 98 ((M ++ Q).map u64)) (hl : M.length = L.length) (c c' : Nat) (ts : Nat) :
    ∃ w1, (∀ ty, (Builtin.copy_ #[97, ts] ty #[sl p 0 L.length c, sl q 0 M.length c']).run Tryz.prog w = .ok (goInt M.length) w1) ∧ Mod [p] w w1 ∧ NatIs w1 x p M R := by
  have hsrc : ∀ j v, (M.map u64)[j]? = some v → w.cell? ((⟨q, 0, none⟩ : Addr).add j) = some v := by
    intro j v hj
    rw [add_addr, Nat.zero_add]
    have hjl : j < M.length := by simpa using (List.getElem?_eq_some_iff.1 hj).1
    rw [map_get hjl] at hj
    rw [hq.at j (by simp; omega), nth_append_left hjl]
    exact hj
  have hrun := fun ty => run_copy_cells (P := Tryz.prog) (ty := ty) (t' := ts) Tryz.underlying97 size_uint h.row 0 L.length c ⟨q, 0, none⟩ M.length c' (us := M.map u64) (by simp [hl]) hsrc (by simp; omega)
    (oneCell_map u64 (fun _ => rfl) M)
  simp only [List.length_map] at hrun
  have hs : splice' ((L ++ R).map u64) (M.map u64) 0 = (M ++ R).map u64 := by rw [splice_map, take_copy L R M hl]
  rw [hs] at hrun
  exact ⟨_, hrun, (Mod.refl _ w).setRow _ _ (by simp), h.put hl (Go.setRow_other _ _ _ _ h.ne) (h.row.setRow _)⟩

set_option maxRecDepth 100000 in
set_option maxHeartbeats 1600000 in
theorem c_set (x p y q : Nat) (L R M Q : List Nat) (w : World) (h : NatIs w x p L R) (hy : NatIs w y q M Q) (h1 : y ≠ x) (h2 : y ≠ p) (h3 : q ≠ x) (h4 : q ≠ p) :
    Calls Tryz.prog 87 #[ptr x, ptr y] w fun e w' =>
      ∃ p' R', e = .returned (ptr x) ∧ Mod [x, p] w w' ∧ NatIs w' x p' M R' ∧ Kept w p p' := by
  have hc := hy.cell
  have hcap := hy.cap
  go_enter Tryz.func87, Tryz.ntmps87
  go_wp2_with fail
  refine (c_reset x p M.length L R _ h (by omega)).mono ?_
  rintro e w1 ⟨p', R', rfl, hm1, hx1, hk1⟩
  have hy1 := hy.mod hm1 (by simp [h1, h2]) (by simp [h3, h4])
  have hq : q < w.heap.size := hy.plt
  obtain ⟨w2, hcp, hm2, hx2⟩ := copy_nat hx1.drew hy1.drew.row (by simp) ((List.replicate M.length 0).length + R'.length) (M.length + Q.length) 97
  have hc1 := hx1.cell
  have hc2 := hy1.cell
  simp only [List.length_replicate] at hcp hc1
  have hm3 : Mod [x, p] w w2 := Mod.trans (U := [x, p]) hm1 hm2.ofDrew (fun a ha _ => ha) (fun a ha hlt => by
    rcases hk1 with hk | hk
    · simp at ha; simp [ha, hk]
    · simp at ha; omega)
  clear hm2 hm1
  go_wp2_with fail
  go_region_with (fail)
  all_goals go_wp2
  all_goals go_ret
  all_goals exact ⟨p', R', rfl, hm3, hx2, hk1⟩

end Go.Proofs.YtkhopfobjijnlaaGreatDoor
