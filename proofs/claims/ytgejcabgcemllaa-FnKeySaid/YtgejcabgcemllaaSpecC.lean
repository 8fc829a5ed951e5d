/- spec.Has at the lowest bit, spec.trim. -/
import Derived.Test.YtgejcabgcemllaaSpecB
namespace Go.Proofs.Ytgejcabgcemllaa
open Go.RowKit

theorem valS_parity {L : List Nat} : nth L 0 % 2 = valS L % 2 := by
  cases L with
  | nil => rfl
  | cons a l => simp only [nth, valS, List.getD_cons_zero]; omega

set_option maxRecDepth 100000 in
theorem c_Has0 (va : Value) (A : List Nat) (w : World) (ha : SliceK i64 w va A) (hd : Digits A) :
    Calls Try.prog 16 #[va, .int .i64 0] w fun e w' => e = .returned (.bool (decide (valS A % 2 = 1))) ∧ Mod [] w w' := by
  obtain ⟨a, c, rfl⟩ := ha.lit
  rcases Nat.eq_zero_or_pos A.length with h0 | h0
  · obtain rfl := List.eq_nil_of_length_eq_zero h0
    clear h0
    go_enter Try.func16, Try.ntmps16
    go_wp2_with fail
    go_ret
    exact ⟨rfl, Mod.refl _ _⟩
  · obtain ⟨b, o, rfl, _, hc⟩ := ha.at h0
    have h1 := hc 0 h0
    rw [Nat.add_zero] at h1
    have hlt := hd 0
    have hand := and_one_i64 (n := nth A 0) (by omega)
    have hp := hide (valS_parity (L := A))
    have hpos : (0 : Int) < (A.length : Int) := by omega
    go_enter Try.func16, Try.ntmps16
    go_wp2_with fail
    go_ret
    refine ⟨?_, Mod.refl _ _⟩
    rw [← hp.out]
    show Ending.returned (.bool (((nth A 0 : Nat) : Int) % 2 == 1)) = _
    congr 2
    rcases Nat.mod_two_eq_zero_or_one (nth A 0) with h | h
    · rw [h, show ((nth A 0 : Nat) : Int) % 2 = 0 by omega]; rfl
    · rw [h, show ((nth A 0 : Nat) : Int) % 2 = 1 by omega]; rfl

theorem trimN_valS {L : List Nat} : ∀ k, k ≤ L.length → valS (L.take (trimN L k)) = valS (L.take k) := by
  intro k
  induction k with
  | zero => intro _; rfl
  | succ k ih =>
    intro hk
    simp only [trimN]
    split
    · rename_i h
      rw [ih (by omega), valS_take_succ (by omega), h, Nat.mul_zero, Nat.add_zero]
    · rfl
theorem trim_canon {L : List Nat} (h : Digits L) : Canon (L.take (trimN L L.length)) ∧ valS (L.take (trimN L L.length)) = valS L := by
  have hle := trimN_le L L.length
  have hl : (L.take (trimN L L.length)).length = trimN L L.length := by simp; omega
  refine ⟨⟨h.take _, ?_⟩, ?_⟩
  · rw [hl]
    intro h0
    have := trimN_top L.length h0
    have e : nth (L.take (trimN L L.length)) (trimN L L.length - 1) = nth L (trimN L L.length - 1) := by
      simp [nth, show trimN L L.length - 1 < trimN L L.length by omega]
    rw [e]
    exact this
  · rw [trimN_valS L.length (Nat.le_refl _), List.take_length]

set_option maxRecDepth 100000 in
set_option maxHeartbeats 1000000 in
theorem c_trimS (v : Value) (L : List Nat) (w : World) (h : SliceK i64 w v L) (hd : Digits L) (hbig : L.length ≤ 1000000) :
    Calls Try.prog 39 #[v] w fun e w' => ∃ v' L', e = .returned v' ∧ Mod [] w w' ∧ SliceK i64 w' v' L' ∧ Canon L' ∧ valS L' = valS L ∧ L'.length ≤ L.length := by
  obtain ⟨a, c, rfl⟩ := h.lit
  have hfin := hide (trim_canon hd)
  have hle := hide (trimN_le L L.length)
  have htake : ∀ k wr, k ≤ L.length → Mod [] w wr → SliceK i64 wr (.slice a k c) (L.take k) := by
    intro k wr hk hm
    rcases h.mod hm (by simp) with ⟨h1, h2⟩ | ⟨b, o, c', h1, h2, h3⟩
    · simp only [Value.slice.injEq] at h1
      obtain ⟨rfl, _, rfl⟩ := h1
      rw [h2] at hk ⊢
      obtain rfl : k = 0 := by simpa using hk
      exact .inl ⟨rfl, rfl⟩
    · simp only [Value.slice.injEq] at h1
      obtain ⟨rfl, _, rfl⟩ := h1
      have e : (L.take k).length = k := by simp; omega
      refine .inr ⟨b, o, c, by rw [e], by omega, fun i hi => ?_⟩
      rw [e] at hi
      have en : nth (L.take k) i = nth L i := by simp [nth, hi]
      rw [h3 i (by omega), en]
  go_enter Try.func39, Try.ntmps39
  go_wp2_with fail
  go_loopw [0] (fun v wr => ∃ k : Nat, k ≤ L.length ∧ v = .slice a k c ∧ Hid (trimN L k = trimN L L.length) ∧ Mod [] w wr) (fun v _ => match v with | .slice _ n _ => n | _ => 0)
  case atStart => exact ⟨L.length, Nat.le_refl _, rfl, hide rfl, Mod.refl _ _⟩
  case round =>
    obtain ⟨k, hk, rfl, ht, hm⟩ := hrel
    cases k with
    | zero =>
      have hs := htake 0 wr hk hm
      have e0 : 0 = trimN L L.length := ht.out
      clear htake
      go_wp2_with fail
      go_ret
      rw [e0] at hs
      refine ⟨_, _, ?_, hm, hs, hfin.out.1, hfin.out.2, by rw [List.length_take]; exact Nat.min_le_right _ _⟩
      rw [← e0]
      rfl
    | succ k =>
      obtain ⟨b, o, rfl, hcc, hc⟩ := (h.mod hm (by simp)).at (by omega)
      have h1 := hc k (by omega)
      by_cases h0 : nth L k = 0
      · have ht2 : Hid (trimN L k = trimN L L.length) := hide (by have := ht.out; simp only [trimN] at this; rw [if_pos h0] at this; exact this)
        rw [h0] at h1
        clear htake hc h0 ht
        have e1 : ((k + 1 : Nat) : Int) - 1 = (k : Int) := by omega
        go_wp2_with fail
        exact ⟨⟨k, by omega, rfl, ht2, hm⟩, Nat.lt_succ_self k⟩
      · have hs := htake (k + 1) wr hk hm
        have e0 : k + 1 = trimN L L.length := by have := ht.out; simp only [trimN] at this; rw [if_neg h0] at this; exact this
        have E0 := hide e0
        have e1 : ((k + 1 : Nat) : Int) - 1 = (k : Int) := by omega
        have hne : ((nth L k : Int) == 0) = false := by simpa using h0
        clear htake hc ht e0
        go_wp2_with fail
        go_ret
        rw [E0.out] at hs
        refine ⟨_, _, ?_, hm, hs, hfin.out.1, hfin.out.2, by rw [List.length_take]; exact Nat.min_le_right _ _⟩
        rw [← E0.out]
        rfl
end Go.Proofs.Ytgejcabgcemllaa
