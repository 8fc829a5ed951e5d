/- spec.Of: words of 64 bits to digits of 16. -/
import Derived.Test.YtgejcabgcemllaaSpecC
namespace Go.Proofs.Ytgejcabgcemllaa
open Go.RowKit

/-- The digits of the first i words, and j of the next. -/
structure OfAt (V D : List Nat) (i j : Nat) : Prop where
  len : D.length = 4 * i + j
  digits : Digits D
  val : valS D = val (V.take i) + W ^ i * (nth V i % 65536 ^ j)

theorem pow65536_4 (i : Nat) : 65536 ^ (4 * i) = W ^ i := by rw [Nat.pow_mul, W_eq]
theorem OfAt.next {V D : List Nat} {i j : Nat} (h : OfAt V D i j) : OfAt V (D ++ [nth V i / 65536 ^ j % 65536]) i (j + 1) := by
  refine ⟨by simp [h.len]; omega, h.digits.push (Nat.mod_lt _ (by omega)), ?_⟩
  rw [valS_append, h.val, h.len, Nat.pow_add, pow65536_4, Nat.pow_succ, Nat.mod_mul, Nat.mul_add, Nat.add_assoc, ← Nat.mul_assoc]
  simp [valS]
theorem OfAt.word {V D : List Nat} {i : Nat} (h : OfAt V D i 4) (hV : Words V) (hi : i < V.length) : OfAt V D (i + 1) 0 := by
  refine ⟨by rw [h.len]; omega, h.digits, ?_⟩
  have h1 := h.val
  rw [show 65536 ^ 4 = W by rw [W_eq], Nat.mod_eq_of_lt (hV.nth i)] at h1
  rw [h1, val_take_succ hi, Nat.pow_zero, Nat.mod_one, Nat.mul_zero, Nat.add_zero]
theorem OfAt.start (V : List Nat) : OfAt V [] 0 0 := ⟨rfl, fun i => by rw [nth_ge (by simp)]; omega, by simp [valS, Go.Proofs.Ytgejcabgcemllaa.val, Nat.mod_one]⟩

theorem and_65535 (x s j : Nat) (hx : x < W) (hs : s = 16 * j) (hj : j < 4) : bits .and .u64 ((x : Int) / 2 ^ min s 64) 65535 = ((x / 65536 ^ j % 65536 : Nat) : Int) := by
  rw [Nat.min_eq_left (show s ≤ 64 by omega)]
  have e1 : ((x : Int) / 2 ^ s) = ((x / 65536 ^ j : Nat) : Int) := by
    rw [hs, Int.natCast_ediv, Int.natCast_pow, Int.pow_mul]
    rfl
  rw [e1]
  have h := bits_and_u64_nat (x / 65536 ^ j) 65535 (Nat.lt_of_le_of_lt (Nat.div_le_self _ _) (by rw [W_eq] at hx; exact hx)) (by omega)
  have h2 : (x / 65536 ^ j) &&& 65535 = (x / 65536 ^ j) % 65536 := Nat.and_two_pow_sub_one_eq_mod (x / 65536 ^ j) 16
  rw [h2] at h
  exact h

set_option maxRecDepth 100000 in
set_option maxHeartbeats 1000000 in
theorem c_Of (v : Value) (V : List Nat) (w : World) (h : SliceK u64 w v V) (hV : Words V) (hbig : V.length ≤ 100000) :
    Calls Try.prog 30 #[v] w fun e w' => ∃ v' L', e = .returned v' ∧ Mod [] w w' ∧ SliceK i64 w' v' L' ∧ Canon L' ∧ valS L' = val V ∧ L'.length ≤ 4 * V.length := by
  obtain ⟨a, c, rfl⟩ := h.lit
  have hown0 : Own i64 3 (w.alloc (.cells #[] 3)) w.heap.size (sl w.heap.size 0 0 0) [] := Own.ofBlk (rest := []) (Nat.le_refl _) (Blk.new w _ []) rfl (by simp [maxLen])
  go_enter Try.func30, Try.ntmps30
  go_wp2_with fail
  go_loopw [3, 10] (fun v i wr => ∃ (i' : Nat) (D : List Nat) (vv : Value), i' ≤ V.length ∧ i = i64 i' ∧ vv = v ∧ Mod [] w wr ∧ Own i64 3 wr w.heap.size vv D ∧ Hid (OfAt V D i' 0)) (fun _ i _ => V.length - (intOf i).toNat)
  case atStart => exact ⟨0, [], _, by omega, rfl, rfl, (Mod.refl _ _).alloc _, hown0, hide (OfAt.start V)⟩
  case round =>
    obtain ⟨i, D, vv, hi, rfl, rfl, hm, hv, hS⟩ := hrel
    by_cases hlt : i < V.length
    · obtain ⟨b, o, rfl, hcc, hc⟩ := (h.mod hm (by simp)).at (by omega)
      have h1 := hc i hlt
      have hwi := hide (hV.nth i)
      clear hc
      go_wp2_with fail
      go_loopw [3, 6] (fun v j wr => ∃ (j' : Nat) (D : List Nat) (vv : Value), j' ≤ 4 ∧ j = i64 j' ∧ vv = v ∧ Mod [] w wr ∧ Own i64 3 wr w.heap.size vv D ∧ Hid (OfAt V D i j')) (fun _ j _ => 4 - (intOf j).toNat)
      case atStart => exact ⟨0, D, _, by omega, rfl, rfl, hm, hv, hS⟩
      case round =>
        clear hm hv hS h1 D
        obtain ⟨j, D, vv, hj, rfl, rfl, hm, hv, hS⟩ := hrel
        by_cases hj4 : j < 4
        · obtain ⟨s, hs⟩ : ∃ s, s = 16 * j := ⟨_, rfl⟩
          have es : IntKind.i64.wrap (16 * (j : Int)) = (s : Int) := by rw [IntKind.wrap_i64]; omega
          have hand := and_65535 (nth V i) s j hwi.out hs hj4
          have hS2 := hide hS.out.next
          have hlen : D.length < 900000 := by have := hS.out.len; omega
          obtain ⟨u, hu⟩ : ∃ u, u = nth V i / 65536 ^ j % 65536 := ⟨_, rfl⟩
          rw [← hu] at hand hS2
          have hu2 : u < 65536 := by rw [hu]; exact Nat.mod_lt _ (by omega)
          have eu : IntKind.i64.wrap (u : Int) = (u : Int) := by rw [IntKind.wrap_i64]; omega
          have hs0 : (0 : Int) ≤ (s : Int) := by omega
          have hma : Mod [] w (wr.alloc (.cells #[.int .i64 (u : Int)] 3)) := hm.alloc _
          have hva : Own i64 3 (wr.alloc (.cells #[.int .i64 (u : Int)] 3)) w.heap.size vv D := hv.mod ((Mod.refl [] _).alloc _) (by simp)
          have hca : (wr.alloc (.cells #[.int .i64 (u : Int)] 3)).cell? ⟨wr.heap.size, 0, none⟩ = some (i64 u) := blk_cell0 (Blk.new wr 3 [i64 u])
          clear hs hu hu2 hS
          go_wp2_with (at_builtin; refine wpl_push rfl _ _ _ rfl vv wr.heap.size 1 rfl rfl i64 rfl Try.underlying35 info_int (by omega) (fun _ => rfl) hma hva hca hlen ?_)
          intro v' w' hv' hm'
          go_wp2_with fail
          go_roundw
          case rel => exact ⟨j + 1, _, v', by omega, by go_num, rfl, hm', hv', hS2⟩
          case measure => simp [intOf]; omega
        · obtain rfl : j = 4 := by omega
          have hS2 := hide (hS.out.word hV hlt)
          clear hS
          go_wp2_with fail
          go_roundw
          case rel => exact ⟨i + 1, D, vv, by omega, by go_num, rfl, hm, hv, hS2⟩
          case measure => simp [intOf]; omega
    · obtain rfl : V.length = i := by omega
      have hl := hS.out.len
      have hvv := hide hS.out.val
      have hdd := hS.out.digits
      have hlen := hide hl
      clear hS hl
      go_wp2_with fail
      refine (c_trimS vv D _ hv.slice hdd (by have := hlen.out; omega)).mono ?_
      rintro e w2 ⟨v2, L2, rfl, m2, hs2, hc2, hv2, hl2⟩
      have m12 : Mod [] w w2 := Mod.trans (U := []) hm m2 (by simp) (by simp)
      have HV := hide hv2
      clear hv2 hi hlt
      go_wp2_with fail
      go_ret
      refine ⟨v2, L2, rfl, m12, hs2, hc2, ?_, by have := hlen.out; omega⟩
      rw [HV.out, hvv.out, List.take_length, Nat.pow_zero, Nat.mod_one]
      rfl
end Go.Proofs.Ytgejcabgcemllaa
