/- Contracts of bigmod's reading of big-endian words, of bitLen, minusInverseModW and errors.New. -/
import Derived.Test.YtgejcabgcemllaaLeafA
import Derived.Lib.EndianBits
namespace Go.Proofs.Ytgejcabgcemllaa
open Go.RowKit

abbrev u32 (n : Nat) : Value := .int .u32 (n : Int)
def Bytes (B : List Nat) : Prop := ∀ i, nth B i < 256

/-- Four bytes, eight bytes from a place on, the highest first. -/
def be4 (B : List Nat) (o : Nat) : Nat := nth B (o + 3) + nth B (o + 2) * 256 + nth B (o + 1) * 65536 + nth B o * 16777216
def be8 (B : List Nat) (o : Nat) : Nat := be4 B o * 4294967296 + be4 B (o + 4)
theorem be4_lt {B : List Nat} (hB : Bytes B) (o : Nat) : be4 B o < 4294967296 := by
  unfold be4
  have := hB o; have := hB (o + 1); have := hB (o + 2); have := hB (o + 3)
  omega
theorem be8_lt {B : List Nat} (hB : Bytes B) (o : Nat) : be8 B o < W := by
  unfold be8
  have := be4_lt hB o; have := be4_lt hB (o + 4)
  rw [W_eq]
  omega

theorem be4_or (a b c d : Nat) (ha : a < 256) (hb : b < 256) (hc : c < 256) (hd : d < 256) :
    bits .or .u32 (bits .or .u32 (bits .or .u32 (d : Int) ((c : Int) * 256)) ((b : Int) * 65536)) ((a : Int) * 16777216) = ((d + c * 256 + b * 65536 + a * 16777216 : Nat) : Int) := by
  rw [u32_or8 (d : Int) ((c : Int) * 256) (by omega) (by omega) (by omega) (by omega) (by omega), u32_or16 ((d : Int) + (c : Int) * 256) ((b : Int) * 65536) (by omega) (by omega) (by omega) (by omega) (by omega),
    u32_or24 ((d : Int) + (c : Int) * 256 + (b : Int) * 65536) ((a : Int) * 16777216) (by omega) (by omega) (by omega) (by omega) (by omega)]
  omega

set_option maxRecDepth 100000 in
set_option maxHeartbeats 1000000 in
theorem c_be32 (bb o n c T : Nat) (B : List Nat) (w : World) (hb : Blk w bb T (B.map u8)) (hB : Bytes B) (hn : 4 ≤ n) (ho : o + n ≤ B.length) :
    Calls Try.prog 68 #[sl bb o n c] w fun e w' => e = .returned (u32 (be4 B o)) ∧ ∃ k, w' = w.drewN k := by
  have h0 := hb.at o (by omega)
  have h1 := hb.at (o + 1) (by omega)
  have h2 := hb.at (o + 2) (by omega)
  have h3 := hb.at (o + 3) (by omega)
  have b0 := hB o; have b1 := hB (o + 1); have b2 := hB (o + 2); have b3 := hB (o + 3)
  have hv := hide (congrArg (Value.int .u32) (be4_or (nth B o) (nth B (o + 1)) (nth B (o + 2)) (nth B (o + 3)) b0 b1 b2 b3))
  have g0 : (3 : Int) < (n : Int) := by omega
  have g1 : (2 : Int) < (n : Int) := by omega
  have g2 : (1 : Int) < (n : Int) := by omega
  have g3 : (0 : Int) < (n : Int) := by omega
  clear hn ho
  go_enter Try.func68, Try.ntmps68
  go_wp2
  go_quiet (fail)
  go_wp2
  go_ret
  exact ⟨congrArg Ending.returned hv.out, ⟨_, rfl⟩⟩

set_option maxRecDepth 100000 in
set_option maxHeartbeats 1000000 in
theorem c_be64 (bb o n c T : Nat) (B : List Nat) (w : World) (hb : Blk w bb T (B.map u8)) (hB : Bytes B) (hn : 8 ≤ n) (hc : n ≤ c) (ho : o + n ≤ B.length) :
    Calls Try.prog 67 #[sl bb o n c] w fun e w' => e = .returned (u64 (be8 B o)) ∧ ∃ k, w' = w.drewN k := by
  have h7 := hb.at (o + 7) (by omega)
  have hlo := be4_lt hB o
  have hhi := be4_lt hB (o + 4)
  have hv : Hid (Value.int .u64 (bits .or .u64 (IntKind.u64.wrap (IntKind.u64.wrap (be4 B o : Int) * 4294967296)) (IntKind.u64.wrap (be4 B (o + 4) : Int))) = u64 (be8 B o)) := by
    have := bits_join .u64 64 (by decide) wraps_u64 32 ((be4 B o : Int) * 4294967296) (be4 B (o + 4) : Int) (by omega) (by omega) (by omega) (by omega) (by omega) (by omega)
    refine hide (congrArg (Value.int .u64) ?_)
    rw [u64_wrap_id (be4 B o : Int) (by omega) (by omega), u64_wrap_id ((be4 B o : Int) * 4294967296) (by omega) (by omega), u64_wrap_id (be4 B (o + 4) : Int) (by omega) (by omega), this]
    unfold be8
    omega
  have g7 : (7 : Int) < (n : Int) := by omega
  have g4 : (4 : Int) ≤ (n : Int) := by omega
  have g4c : ¬ c = 4 := by omega
  have m1 : ∀ k, Blk (w.drewN k) bb T (B.map u8) := fun k => hb.drewN k
  have c1 := fun k => c_be32 bb o n c T B (w.drewN k) (m1 k) hB (by omega) ho
  have c2 := fun k => c_be32 bb (o + 4) (n - 4) (c - 4) T B (w.drewN k) (m1 k) hB (by omega) (by omega)
  have C1 := hide c1
  have C2 := hide c2
  clear c1 c2 m1
  go_enter Try.func67, Try.ntmps67
  go_wp2
  refine wp_region_quiet_lit (by kernel_rfl) (by kernel_rfl) ?_
  iterate 6 quiet_step ((go_at_call 68; exact Calls.quiet_of (C1.out _)))
  repeat quiet_step ((go_at_call 68; exact Calls.quiet_of (C2.out _)))
  refine wpQuiet_nil ?_
  intro _ hw'
  obtain ⟨nq, hw''⟩ := hw'
  subst hw''
  go_wp2
  go_ret
  exact ⟨congrArg Ending.returned hv.out, ⟨_, rfl⟩⟩

set_option maxRecDepth 100000 in
theorem c_beUint (bb o n c T : Nat) (B : List Nat) (w : World) (hb : Blk w bb T (B.map u8)) (hB : Bytes B) (hn : 8 ≤ n) (hc : n ≤ c) (ho : o + n ≤ B.length) :
    Calls Try.prog 61 #[sl bb o n c] w fun e w' => e = .returned (u64 (be8 B o)) ∧ ∃ k, w' = w.drewN k := by
  go_enter Try.func61, Try.ntmps61
  go_wp2_with fail
  refine (c_be64 bb o n c T B w hb hB hn hc ho).mono ?_; rintro e w' ⟨rfl, k, rfl⟩
  go_wp2_with fail
  go_ret
  exact ⟨rfl, k, rfl⟩

theorem ret_i64 {a b : Nat} (h : a = b) : Ending.returned (i64 a) = Ending.returned (i64 b) := by rw [h]
theorem ret_u64 {a b : Nat} (h : a = b) : Ending.returned (u64 a) = Ending.returned (u64 b) := by rw [h]
theorem blen_zero : blen 0 = 0 := rfl
theorem blen_half {n : Nat} (h : n ≠ 0) : blen n = blen (n / 2) + 1 := by
  unfold blen
  rw [if_neg h]
  by_cases h1 : n / 2 = 0
  · rw [if_pos h1]
    have : n = 1 := by omega
    subst this
    rfl
  · rw [if_neg h1]
    rw [Nat.log2_def]
    rw [if_pos (by omega)]
theorem blen_le {n k : Nat} (h : n < 2 ^ k) : blen n ≤ k := by
  unfold blen
  split
  · omega
  · rename_i h0
    have := (Nat.log2_lt h0).2 h
    omega
theorem blen_word {n : Nat} (h : n < W) : blen n ≤ 64 := blen_le (by rw [W_eq] at h; simpa using h)
theorem blen_pos {n : Nat} (h : n ≠ 0) : 1 ≤ blen n := by rw [blen_half h]; omega

set_option maxRecDepth 100000 in
theorem c_bitLen (n : Nat) (hn : n < W) (w : World) :
    Calls Try.prog 66 #[u64 n] w fun e w' => e = .returned (i64 (blen n)) ∧ w = w' := by
  have h64 := blen_word hn
  go_enter Try.func66, Try.ntmps66
  go_wp2
  go_loop [0, 3] (fun a l => ∃ m k : Nat, a = u64 m ∧ l = i64 k ∧ Hid (blen n = k + blen m) ∧ k ≤ 64) (fun a _ => (intOf a).toNat)
  case atStart => exact ⟨n, 0, rfl, rfl, hide (by omega), by omega⟩
  case round =>
    obtain ⟨m, k, rfl, rfl, hk, hk64⟩ := hrel
    by_cases h0 : m = 0
    · subst h0
      have := hk.out
      have hb : blen n = k := by rw [this, blen_zero]; omega
      have H := hide hb
      clear this hb
      go_wp2
      go_ret
      exact ⟨ret_i64 H.out.symm, rfl⟩
    · have h1 := hk.out
      have hh := blen_half h0
      have hm : ((m : Int) != 0) = true := by simpa using h0
      have hk' : k < 64 := by omega
      have H : Hid (blen n = (k + 1) + blen (m / 2)) := hide (by omega)
      have hlt : Hid (m / 2 < m) := hide (by omega)
      clear h1 hh hk
      go_wp2
      go_round
      case rel => exact ⟨m / 2, k + 1, by first | rfl | (simp; done), by go_num, H, by omega⟩
      case measure => have := hlt.out; simp [intOf]; omega

/-- -x^-1 modulo 2^64, by Newton's way: five steps. -/
def nstep (x y : Nat) : Nat := y * ((W + 2 - x * y % W) % W) % W
def newton (x : Nat) : Nat → Nat
  | 0 => x
  | k + 1 => nstep x (newton x k)
def m0inv (x : Nat) : Nat := (W - newton x 5) % W
theorem newton_lt {x : Nat} (hx : x < W) (k : Nat) : newton x k < W := by
  cases k with
  | zero => exact hx
  | succ k => exact Nat.mod_lt _ W_pos
theorem wrapW (a : Nat) : IntKind.u64.wrap (a : Int) = ((a % W : Nat) : Int) := by rw [IntKind.wrap_u64, W_eq]; omega
theorem wrap_two {z : Nat} (h : z < W) : IntKind.u64.wrap (2 - (z : Int)) = (((W + 2 - z) % W : Nat) : Int) := by
  rw [IntKind.wrap_u64]
  rw [W_eq] at *
  omega
theorem newton_step (x y : Nat) : IntKind.u64.wrap ((y : Int) * IntKind.u64.wrap (2 - IntKind.u64.wrap ((x : Int) * (y : Int)))) = ((nstep x y : Nat) : Int) := by
  rw [← Int.natCast_mul, wrapW, wrap_two (Nat.mod_lt _ W_pos), ← Int.natCast_mul, wrapW]
  rfl
theorem neg_word {y : Nat} (hy : y < W) : IntKind.u64.wrap (-(y : Int)) = (((W - y) % W : Nat) : Int) := by
  rw [IntKind.wrap_u64]
  rw [W_eq] at *
  omega
theorem neg_newton {x : Nat} (hx : x < W) : IntKind.u64.wrap (-(newton x 5 : Int)) = ((m0inv x : Nat) : Int) := neg_word (newton_lt hx 5)

set_option maxRecDepth 100000 in
theorem c_minusInverse (x : Nat) (hx : x < W) (w : World) :
    Calls Try.prog 57 #[u64 x] w fun e w' => e = .returned (u64 (m0inv x)) ∧ w = w' := by
  have HX := hide hx
  clear hx
  go_enter Try.func57, Try.ntmps57
  go_wp2
  go_loop [3, 4] (fun y i => ∃ k : Nat, k ≤ 5 ∧ i = i64 k ∧ y = u64 (newton x k)) (fun _ i => 5 - (intOf i).toNat)
  case atStart => exact ⟨0, by omega, rfl, rfl⟩
  case round =>
    obtain ⟨k, hk, rfl, rfl⟩ := hrel
    by_cases hlt : k < 5
    · have hs := newton_step x (newton x k)
      go_wp2
      go_round
      case rel => exact ⟨k + 1, by omega, by go_num, rfl⟩
      case measure => simp [intOf]; omega
    · obtain rfl : k = 5 := by omega
      have hng := neg_newton HX.out
      clear hlt hk
      go_wp2
      go_ret
      exact ⟨rfl, rfl⟩

end Go.Proofs.Ytgejcabgcemllaa
