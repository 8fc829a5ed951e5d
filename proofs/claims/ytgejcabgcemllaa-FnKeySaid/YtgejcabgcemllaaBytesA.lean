/- Bytes in memory, numbers of bytes, and the contracts of bigmod's reading of bytes. -/
import Derived.Test.YtgejcabgcemllaaNatK
namespace Go.Proofs.Ytgejcabgcemllaa
open Go.RowKit

/-- The cells from place o of block b on are these bytes. -/
def CellsB (w : World) (b o : Nat) (B : List Nat) : Prop := ∀ i, i < B.length → w.cell? ⟨b, o + i, none⟩ = some (u8 (nth B i))
theorem CellsB.drewN {w : World} {b o : Nat} {B : List Nat} (h : CellsB w b o B) (n : Nat) : CellsB (w.drewN n) b o B := h
theorem CellsB.drew {w : World} {b o : Nat} {B : List Nat} (h : CellsB w b o B) : CellsB w.drew b o B := h
theorem CellsB.mod {w w' : World} {S : List Nat} {b o : Nat} {B : List Nat} (h : CellsB w b o B) (m : Mod S w w') (hb : b ∉ S) : CellsB w' b o B := by
  intro i hi
  have h1 := h i hi
  have hlt : b < w.heap.size := block_lt_of_cell h1
  rw [← h1]
  exact World.cell?_of_block (w := w) (m.block b hlt hb)
theorem CellsB.lt {w : World} {b o : Nat} {B : List Nat} (h : CellsB w b o B) (hB : 0 < B.length) : b < w.heap.size := block_lt_of_cell (h 0 hB)

/-- A value that is a slice of these bytes: nil or empty where there are none, or the cells lie there. -/
def SliceB (w : World) (v : Value) (B : List Nat) : Prop := (v = .slice none 0 0 ∧ B = []) ∨ (∃ x c, v = .slice (some x) 0 c ∧ B = []) ∨ ∃ b o c, v = sl b o B.length c ∧ B.length ≤ c ∧ CellsB w b o B

/-- The number of the t bytes ahead of place e, the highest first. -/
def bseg (B : List Nat) (e : Nat) : Nat → Nat
  | 0 => 0
  | t + 1 => bseg B e t + 256 ^ t * nth B (e - 1 - t)
/-- The number of bytes, the highest first. -/
def bval (B : List Nat) : Nat := bseg B B.length B.length

theorem bseg_add (B : List Nat) (e s : Nat) : ∀ t, bseg B e (s + t) = bseg B e s + 256 ^ s * bseg B (e - s) t := by
  intro t
  induction t with
  | zero => simp [bseg]
  | succ t ih =>
    rw [← Nat.add_assoc, bseg, ih, bseg, Nat.mul_add, Nat.pow_add, Nat.mul_assoc, show e - 1 - (s + t) = e - s - 1 - t by omega]
    omega
theorem bseg_lt {B : List Nat} (h : Bytes B) (e : Nat) : ∀ t, bseg B e t < 256 ^ t := by
  intro t
  induction t with
  | zero => simp [bseg]
  | succ t ih =>
    simp only [bseg, Nat.pow_succ]
    have := h (e - 1 - t)
    have h2 : 256 ^ t * (nth B (e - 1 - t) + 1) ≤ 256 ^ t * 256 := Nat.mul_le_mul_left _ this
    rw [Nat.mul_add] at h2
    omega
theorem be8_seg (B : List Nat) (o : Nat) : be8 B o = bseg B (o + 8) 8 := by
  simp only [bseg, be8, be4]
  rw [show o + 8 - 1 - 0 = o + 4 + 3 by omega, show o + 8 - 1 - 1 = o + 4 + 2 by omega, show o + 8 - 1 - 2 = o + 4 + 1 by omega, show o + 8 - 1 - 3 = o + 4 by omega,
    show o + 8 - 1 - 4 = o + 3 by omega, show o + 8 - 1 - 5 = o + 2 by omega, show o + 8 - 1 - 6 = o + 1 by omega, show o + 8 - 1 - 7 = o by omega]
  omega

set_option maxRecDepth 100000 in
set_option maxHeartbeats 1000000 in
theorem c_be32' (bb o q n c : Nat) (B : List Nat) (w : World) (hb : CellsB w bb o B) (hB : Bytes B) (hn : 4 ≤ n) (hq : q + n ≤ B.length) :
    Calls Try.prog 68 #[sl bb (o + q) n c] w fun e w' => e = .returned (u32 (be4 B q)) ∧ ∃ k, w' = w.drewN k := by
  have h0 := hb q (by omega)
  have h1 := hb (q + 1) (by omega)
  have h2 := hb (q + 2) (by omega)
  have h3 := hb (q + 3) (by omega)
  rw [← Nat.add_assoc] at h1 h2 h3
  have b0 := hB q; have b1 := hB (q + 1); have b2 := hB (q + 2); have b3 := hB (q + 3)
  have hv := hide (congrArg (Value.int .u32) (be4_or (nth B q) (nth B (q + 1)) (nth B (q + 2)) (nth B (q + 3)) b0 b1 b2 b3))
  have g0 : (3 : Int) < (n : Int) := by omega
  have g1 : (2 : Int) < (n : Int) := by omega
  have g2 : (1 : Int) < (n : Int) := by omega
  have g3 : (0 : Int) < (n : Int) := by omega
  clear hn hq
  obtain ⟨p, hp⟩ : ∃ p, p = o + q := ⟨_, rfl⟩
  rw [← hp] at h0 h1 h2 h3 ⊢
  clear hp
  go_enter Try.func68, Try.ntmps68
  go_wp2
  go_quiet (fail)
  go_wp2
  go_ret
  exact ⟨congrArg Ending.returned hv.out, ⟨_, rfl⟩⟩

set_option maxRecDepth 100000 in
set_option maxHeartbeats 1000000 in
theorem c_be64' (bb o q n c : Nat) (B : List Nat) (w : World) (hb : CellsB w bb o B) (hB : Bytes B) (hn : 8 ≤ n) (hc : n ≤ c) (hq : q + n ≤ B.length) :
    Calls Try.prog 67 #[sl bb (o + q) n c] w fun e w' => e = .returned (u64 (be8 B q)) ∧ ∃ k, w' = w.drewN k := by
  have h7 := hb (q + 7) (by omega)
  rw [← Nat.add_assoc] at h7
  have hlo := be4_lt hB q
  have hhi := be4_lt hB (q + 4)
  have hv : Hid (Value.int .u64 (bits .or .u64 (IntKind.u64.wrap (IntKind.u64.wrap (be4 B q : Int) * 4294967296)) (IntKind.u64.wrap (be4 B (q + 4) : Int))) = u64 (be8 B q)) := by
    have := bits_join .u64 64 (by decide) wraps_u64 32 ((be4 B q : Int) * 4294967296) (be4 B (q + 4) : Int) (by omega) (by omega) (by omega) (by omega) (by omega) (by omega)
    refine hide (congrArg (Value.int .u64) ?_)
    rw [u64_wrap_id (be4 B q : Int) (by omega) (by omega), u64_wrap_id ((be4 B q : Int) * 4294967296) (by omega) (by omega), u64_wrap_id (be4 B (q + 4) : Int) (by omega) (by omega), this]
    unfold be8
    omega
  have g7 : (7 : Int) < (n : Int) := by omega
  have g4 : (4 : Int) ≤ (n : Int) := by omega
  have g4c : ¬ c = 4 := by omega
  have c1 := fun k => c_be32' bb o q n c B (w.drewN k) (hb.drewN k) hB (by omega) hq
  have c2 := fun k => c_be32' bb o (q + 4) (n - 4) (c - 4) B (w.drewN k) (hb.drewN k) hB (by omega) (by omega)
  rw [← Nat.add_assoc] at c2
  obtain ⟨p, hp⟩ : ∃ p, p = o + q := ⟨_, rfl⟩
  rw [← hp] at h7 c1 c2 ⊢
  have C1 := hide c1
  have C2 := hide c2
  clear c1 c2 hp
  go_enter Try.func67, Try.ntmps67
  go_wp2
  refine wp_region_quiet_lit (by kernel_rfl) (by kernel_rfl) ?_
  iterate 6 quiet_step ((go_at_call 68; exact Calls.quiet_of (C1.out _)))
  repeat quiet_step ((go_at_call 68; exact Calls.quiet_of (C2.out _)))
  refine wpQuiet_nil ?_
  intro _ hw'
  obtain ⟨nq, hw''⟩ := hw'
  subst hw''
  go_wp2
  go_ret
  exact ⟨congrArg Ending.returned hv.out, ⟨_, rfl⟩⟩

set_option maxRecDepth 100000 in
theorem c_beUint' (bb o q n c : Nat) (B : List Nat) (w : World) (hb : CellsB w bb o B) (hB : Bytes B) (hn : 8 ≤ n) (hc : n ≤ c) (hq : q + n ≤ B.length) :
    Calls Try.prog 61 #[sl bb (o + q) n c] w fun e w' => e = .returned (u64 (be8 B q)) ∧ ∃ k, w' = w.drewN k := by
  have C := hide (c_be64' bb o q n c B w hb hB hn hc hq)
  go_enter Try.func61, Try.ntmps61
  go_wp2_with fail
  refine C.out.mono ?_; rintro e w' ⟨rfl, k, rfl⟩
  go_wp2_with fail
  go_ret
  exact ⟨rfl, k, rfl⟩

theorem val_set {V : List Nat} {k v : Nat} (h : k < V.length) : val (V.set k v) + W ^ k * nth V k = val V + W ^ k * v := by
  have e1 := val_split V (k + 1) (by omega)
  have e2 := val_split (V.set k v) (k + 1) (by simp; omega)
  rw [val_take_succ h] at e1
  rw [take_succ_set h, List.drop_set_of_lt (by omega)] at e2
  omega

set_option maxRecDepth 100000 in
theorem c_errNew (s : ByteArray) (w : World) : Calls Try.prog 48 #[.string s] w fun e w' => ∃ p, e = .returned (.iface 107 (ptr p)) ∧ Mod [] w w' := by
  go_enter Try.func48, Try.ntmps48
  go_wp2
  go_ret
  exact ⟨_, rfl, (Mod.refl [] w).alloc _⟩

end Go.Proofs.Ytgejcabgcemllaa
