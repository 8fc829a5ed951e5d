/- spec.Cmp and spec.Has on numbers without a zero at the top. -/
import Derived.Test.YtgejcabgcemllaaSpecA
namespace Go.Proofs.Ytgejcabgcemllaa
open Go.RowKit

theorem valS_split (L : List Nat) (i : Nat) (h : i ≤ L.length) : valS L = valS (L.take i) + 65536 ^ i * valS (L.drop i) := by
  have h1 := valS_append (L.take i) (L.drop i)
  rw [List.take_append_drop, List.length_take, Nat.min_eq_left h] at h1
  exact h1
theorem valS_take_succ {L : List Nat} {i : Nat} (h : i < L.length) : valS (L.take (i + 1)) = valS (L.take i) + 65536 ^ i * nth L i := by
  rw [List.take_succ_eq_append_getElem h, valS_append, List.length_take, Nat.min_eq_left (by omega), nth_eq L i h]
  simp [valS]
theorem Digits.take {L : List Nat} (h : Digits L) (i : Nat) : Digits (L.take i) := by
  intro j
  have := h j
  unfold nth at *
  by_cases hj : j < i
  · simpa [List.getElem?_take, hj] using this
  · simp [List.getElem?_take, hj]
theorem Digits.tail {x : Nat} {l : List Nat} (h : Digits (x :: l)) : x < 65536 ∧ Digits l := ⟨h 0, fun i => h (i + 1)⟩
theorem valS_lt {L : List Nat} (h : Digits L) : valS L < 65536 ^ L.length := by
  induction L with
  | nil => simp [valS]
  | cons x l ih =>
    have h2 := ih h.tail.2
    have h1 := h.tail.1
    simp only [valS, List.length_cons, Nat.pow_succ]
    omega
theorem valS_ge {L : List Nat} (h : Canon L) (h0 : L.length ≠ 0) : 65536 ^ (L.length - 1) ≤ valS L := by
  have h1 := h.top h0
  have h2 := valS_take_succ (L := L) (i := L.length - 1) (by omega)
  rw [show L.length - 1 + 1 = L.length by omega, List.take_length] at h2
  rw [h2]
  have h3 : 65536 ^ (L.length - 1) * 1 ≤ 65536 ^ (L.length - 1) * nth L (L.length - 1) := Nat.mul_le_mul_left _ (by omega)
  omega
theorem valS_shorter {A B : List Nat} (hA : Digits A) (hB : Canon B) (h : A.length < B.length) : valS A < valS B := by
  have h1 := valS_lt hA
  have h2 := valS_ge hB (by omega)
  have h3 : 65536 ^ A.length ≤ 65536 ^ (B.length - 1) := Nat.pow_le_pow_right (by omega) (by omega)
  omega
theorem drop_eq {A B : List Nat} {j : Nat} (hl : A.length = B.length) (h : ∀ i, j ≤ i → i < A.length → nth A i = nth B i) : A.drop j = B.drop j := by
  apply nth_ext
  · simp [hl]
  · intro i hi
    simp at hi
    have := h (j + i) (by omega) (by omega)
    simpa [nth] using this
theorem valS_less {A B : List Nat} {j : Nat} (hA : Digits A) (hl : A.length = B.length) (hj : j < A.length) (h : ∀ i, j + 1 ≤ i → i < A.length → nth A i = nth B i) (hlt : nth A j < nth B j) : valS A < valS B := by
  have h1 := valS_split A (j + 1) (by omega)
  have h2 := valS_split B (j + 1) (by omega)
  rw [drop_eq hl h, valS_take_succ hj] at h1
  rw [valS_take_succ (by omega)] at h2
  have h3 := valS_lt (hA.take j)
  rw [List.length_take, Nat.min_eq_left (by omega)] at h3
  have h4 : 65536 ^ j * (nth A j + 1) ≤ 65536 ^ j * nth B j := Nat.mul_le_mul_left _ hlt
  rw [Nat.mul_add] at h4
  omega

/-- How two numbers compare. -/
def cmpV (a b : Nat) : Int := if a < b then -1 else if b < a then 1 else 0

theorem SliceK.at {k : Nat → Value} {w : World} {a : Option Addr} {n c : Nat} {L : List Nat} (h : SliceK k w (.slice a n c) L) (h0 : 0 < L.length) :
    ∃ b o, a = some ⟨b, o, none⟩ ∧ L.length ≤ c ∧ ∀ i, i < L.length → w.cell? ⟨b, o + i, none⟩ = some (k (nth L i)) := by
  rcases h with ⟨_, h2⟩ | ⟨b, o, c', h1, h2, h3⟩
  · rw [h2] at h0; simp at h0
  · simp only [Value.slice.injEq] at h1
    obtain ⟨rfl, _, rfl⟩ := h1
    exact ⟨b, o, rfl, h2, h3⟩

set_option maxRecDepth 100000 in
set_option maxHeartbeats 1000000 in
theorem c_Cmp (va vb : Value) (A B : List Nat) (w : World) (ha : SliceK i64 w va A) (hb : SliceK i64 w vb B) (cA : Canon A) (cB : Canon B) (hs : A.length ≤ 1000000) :
    Calls Try.prog 14 #[va, vb] w fun e w' => e = .returned (.int .i64 (cmpV (valS A) (valS B))) ∧ Mod [] w w' := by
  obtain ⟨aa, ca, rfl⟩ := ha.lit
  obtain ⟨ab, cb, rfl⟩ := hb.lit
  rcases Nat.lt_trichotomy A.length B.length with hl | hl | hl
  · have hv := hide (show cmpV (valS A) (valS B) = -1 by unfold cmpV; rw [if_pos (valS_shorter cA.digits cB hl)])
    clear hs
    go_enter Try.func14, Try.ntmps14
    go_wp2_with fail
    go_ret
    exact ⟨by rw [hv.out]; rfl, Mod.refl _ _⟩
  · have HS := hide hs
    rw [← hl] at hb ⊢
    have HL := hide hl
    clear hl
    go_enter Try.func14, Try.ntmps14
    go_wp2_with fail
    go_loopw [5] (fun i wr => ∃ j : Nat, j ≤ A.length ∧ i = .int .i64 ((j : Int) - 1) ∧ Hid (∀ i, j ≤ i → i < A.length → nth A i = nth B i) ∧ Mod [] w wr) (fun i _ => (intOf i + 1).toNat)
    case atStart =>
      exact ⟨A.length, Nat.le_refl _, by first | rfl | go_num, hide (fun i h1 h2 => by omega), Mod.refl _ _⟩
    case round =>
      obtain ⟨j, hj, rfl, he, hm⟩ := hrel
      cases j with
      | zero =>
        have hv := hide (show cmpV (valS A) (valS B) = 0 by
          have hAB : A = B := nth_ext HL.out (fun i hi => he.out i (by omega) hi)
          rw [hAB]; unfold cmpV; rw [if_neg (by omega), if_neg (by omega)])
        go_wp2_with fail
        go_ret
        exact ⟨by rw [hv.out]; rfl, hm⟩
      | succ j =>
        obtain ⟨b1, o1, rfl, _, hcA⟩ := (ha.mod hm (by simp)).at (by omega)
        have hb2 := hb
        rw [HL.out] at hb2
        obtain ⟨b2, o2, rfl, _, hcB⟩ := (hb2.mod hm (by simp)).at (by have := HL.out; omega)
        have h1 := hcA j (by omega)
        have h2 := hcB j (by have := HL.out; omega)
        have e1 : Hid (((j + 1 : Nat) : Int) - 1 = (j : Int)) := hide (by omega)
        rw [e1.out]
        clear hcA hcB hb2
        rcases Nat.lt_trichotomy (nth A j) (nth B j) with hc | hc | hc
        · have hv := hide (show cmpV (valS A) (valS B) = -1 by unfold cmpV; rw [if_pos (valS_less cA.digits HL.out (by omega) he.out hc)])
          have hci : (nth A j : Int) < (nth B j : Int) := by omega
          go_wp2_with fail
          go_quiet (fail)
          go_wp2_with fail
          go_ret
          exact ⟨by rw [hv.out]; rfl, hm.drewN _⟩
        · have he2 : Hid (∀ i, j ≤ i → i < A.length → nth A i = nth B i) := hide (fun i h1 h2 => by
            rcases Nat.eq_or_lt_of_le h1 with h | h
            · rw [← h]; exact hc
            · exact he.out i h h2)
          rw [← hc] at h2
          clear hc he
          go_wp2_with fail
          go_quiet (fail)
          go_wp2_with fail
          go_quiet (fail)
          go_wp2_with fail
          go_roundw
          case rel => exact ⟨j, by omega, by go_num, he2, by first | exact hm.drewN _ | exact (hm.drewN _).drewN _⟩
          case measure => simp [intOf]
        · have hv := hide (show cmpV (valS A) (valS B) = 1 by
            have := valS_less cB.digits HL.out.symm (by have := HL.out; omega) (fun i h1 h2 => (he.out i h1 (by have := HL.out; omega)).symm) hc
            unfold cmpV; rw [if_neg (by omega), if_pos this])
          have hci : ¬ (nth A j : Int) < (nth B j : Int) := by omega
          have hci2 : (nth B j : Int) < (nth A j : Int) := by omega
          go_wp2_with fail
          go_quiet (fail)
          go_wp2_with fail
          go_quiet (fail)
          go_wp2_with fail
          go_ret
          exact ⟨by rw [hv.out]; rfl, by first | exact hm.drewN _ | exact (hm.drewN _).drewN _⟩
  · have hv := hide (show cmpV (valS A) (valS B) = 1 by have := valS_shorter cB.digits cA hl; unfold cmpV; rw [if_neg (by omega), if_pos this])
    have hn : ¬ A.length < B.length := by omega
    clear hs
    go_enter Try.func14, Try.ntmps14
    go_wp2_with fail
    go_ret
    exact ⟨by rw [hv.out]; rfl, Mod.refl _ _⟩
end Go.Proofs.Ytgejcabgcemllaa
