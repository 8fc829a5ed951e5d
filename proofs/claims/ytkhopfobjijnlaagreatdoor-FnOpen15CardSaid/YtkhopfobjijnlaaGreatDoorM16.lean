/- spec.back: V is added to a piece of a row. The estimate of Knuth's algorithm D: plain law. V = (v1 * b + v2) * P + vl, S = (t * b + u2) * P + ul, b = 65536. One digit of the quotient: plain law over rows. The rounds of spec.DivMod: plain law. spec.DivMod: the two short ways. The shift that makes a divisor's top digit great: plain law. One round's estimate in spec.DivMod: plain law. -/
import Derived.Test.YtkhopfobjijnlaaGreatDoorM15
import Derived.KernelRfl
set_option linter.all false
namespace Go.Proofs.YtkhopfobjijnlaaGreatDoor
open Go.RowKit

/-- What spec.back has done: i digits, c is carried. -/
structure BackAt (U V : List Nat) (j : Nat) (U' : List Nat) (i c : Nat) : Prop where
  len : U'.length = U.length
  digits : Digits U'
  carry : c ≤ 1
  rest : ∀ k, ¬ (j ≤ k ∧ k < j + i) → nth U' k = nth U k
  val : segS U' j i + 65536 ^ i * c = segS U j i + valS (V.take i)
theorem BackAt.start {U V : List Nat} {j : Nat} (hU : Digits U) : BackAt U V j U 0 0 := ⟨rfl, hU, by omega, fun _ _ => rfl, by simp [segS, valS]⟩
theorem BackAt.next {U V U' : List Nat} {j i c : Nat} (H : BackAt U V j U' i c) (hU : Digits U) (hV : Digits V) (hi : j + i < U.length) :
    BackAt U V j (U'.set (j + i) ((nth U (j + i) + c + nth V i) % 65536)) (i + 1) ((nth U (j + i) + c + nth V i) / 65536) := by
  have hl := H.len
  have h5 := hU (j + i)
  have h6 := hV i
  have h7 := H.carry
  refine ⟨by simp [hl], H.digits.set _ (Nat.mod_lt _ (by omega)), by omega, fun k hk => by rw [nth_set_ne (by omega)]; exact H.rest k (by omega), ?_⟩
  have h1 := H.val
  have h2 := Nat.mod_add_div (nth U (j + i) + c + nth V i) 65536
  simp only [segS]
  rw [segS_low i (Nat.le_refl _), nth_set_same (by omega), valS_take_any, Nat.pow_succ]
  generalize (nth U (j + i) + c + nth V i) % 65536 = a at *
  generalize (nth U (j + i) + c + nth V i) / 65536 = b at *
  generalize segS U' j i = s1 at *
  generalize segS U j i = s2 at *
  generalize nth U (j + i) = x at *
  generalize nth V i = y at *
  generalize valS (V.take i) = t at *
  generalize 65536 ^ i = q at *
  clear hl h5 h6 h7
  have h4 : q * (a + 65536 * b) = q * (x + c + y) := by rw [h2]
  grind

set_option maxRecDepth 100000 in
set_option maxHeartbeats 4000000 in
theorem c_back (g j m cu : Nat) (vv : Value) (U V : List Nat) (rest : List Value) (w : World) (hU : Blk w g 3 (U.map i64 ++ rest)) (hv : SliceK i64 w vv V) (hvg : Apart vv g) (dU : Digits U) (dV : Digits V)
    (hjm : j + m ≤ U.length) (lU : U.length ≤ 200000) (lV : V.length ≤ m) :
    Calls Tryz.prog 48 #[sl g j m cu, vv] w fun e w' => ∃ U' c, e = .returned (.tuple #[]) ∧ Mod [g] w w' ∧ Blk w' g 3 (U'.map i64 ++ rest) ∧ BackAt U V j U' m c := by
  obtain ⟨av, cv, rfl⟩ := hv.lit
  have hs0 := hide (BackAt.start (V := V) (j := j) dU)
  go_enter Tryz.func48, Tryz.ntmps48
  go_wp2_with fail
  go_loopw [4, 9] (fun c i wr => ∃ (c' i' : Nat) (U' : List Nat), c = i64 c' ∧ i = i64 i' ∧ i' ≤ m ∧ Mod [g] w wr ∧ Blk wr g 3 (U'.map i64 ++ rest) ∧ Hid (BackAt U V j U' i' c')) (fun _ i _ => m - (intOf i).toNat)
  case atStart => exact ⟨0, 0, U, rfl, rfl, by omega, Mod.refl _ _, hU, hs0⟩
  case round =>
    obtain ⟨c, i, U', rfl, rfl, hi, hm, hO, hS⟩ := hrel
    have hcb := hS.out.carry
    have hOl := hS.out.len
    by_cases h1 : i < m
    · obtain ⟨ji, hji⟩ : ∃ ji, ji = j + i := ⟨_, rfl⟩
      have hro := hO.atR ji (by omega)
      have hfo := hO.frozen ji
      have hin : nth U' ji = nth U ji := hS.out.rest ji (by omega)
      rw [hin] at hro
      have hS2 := hS.out.next dU dV (by omega)
      rw [← hji] at hS2
      obtain ⟨x, hx⟩ : ∃ x, x = nth U ji := ⟨_, rfl⟩
      have hxb : x < 65536 := by rw [hx]; exact dU ji
      obtain ⟨y, hy⟩ : ∃ y, y = nth V i := ⟨_, rfl⟩
      have hyb : y < 65536 := by rw [hy]; exact dV i
      rw [← hx] at hro
      rw [← hx, ← hy] at hS2
      obtain ⟨s1, hs1⟩ : ∃ s1, s1 = x + c := ⟨_, rfl⟩
      obtain ⟨s, hs⟩ : ∃ s, s = s1 + y := ⟨_, rfl⟩
      rw [← hs1, ← hs] at hS2
      obtain ⟨a, ha⟩ : ∃ a, a = s % 65536 := ⟨_, rfl⟩
      obtain ⟨b, hb⟩ : ∃ b, b = s / 65536 := ⟨_, rfl⟩
      rw [← ha, ← hb] at hS2
      have HS2 := hide hS2
      have e1 : (x : Int) + (c : Int) = (s1 : Int) := by omega
      have e2 : (s1 : Int) + (y : Int) = (s : Int) := by omega
      have e3 : (s : Int) / 65536 = (b : Int) := by omega
      have e4 : (s : Int) % 65536 = (a : Int) := by omega
      have b1 : s ≤ 200000 := by omega
      have b2 : s1 ≤ 200000 := by omega
      have b3 : b ≤ 2 := by omega
      have him : (i : Int) < (m : Int) := by omega
      have hO2 : Blk (wr.setCell ⟨g, ji, none⟩ (.int .i64 (a : Int))) g 3 ((U'.set ji a).map i64 ++ rest) := hO.setR ji a (by omega)
      have hm2 : Mod [g] w (wr.setCell ⟨g, ji, none⟩ (.int .i64 (a : Int))) := hm.setCell _ _ (by simp)
      rw [hji] at hro hfo
      have hset : ∀ v, wr.setCell ⟨g, j + i, none⟩ v = wr.setCell ⟨g, ji, none⟩ v := fun v => by rw [hji]
      have hib : i ≤ 200000 := by omega
      by_cases h2 : i < V.length
      · obtain ⟨bv, ov, rfl, _, hcV⟩ := (hv.mod hm (by simpa using hvg)).at (by omega)
        have hr2 := hcV i h2
        rw [← hy] at hr2
        clear hcV hOl hin hS2 ha hb hs hs1 hx hy hS
        go_wp2_with fail
        go_roundw
        case rel => exact ⟨b, i + 1, _, by first | rfl | go_num, by go_num, by omega, hm2, hO2, HS2⟩
        case measure => simp [intOf]; omega
      · have hy0 : y = 0 := by rw [hy, nth_ge (by omega)]
        obtain rfl : s = s1 := by omega
        clear hOl hin hS2 ha hb hs hs1 hx hy hS hy0 e2
        go_wp2_with fail
        go_roundw
        case rel => exact ⟨b, i + 1, _, by first | rfl | go_num, by go_num, by omega, hm2, hO2, HS2⟩
        case measure => simp [intOf]; omega
    · obtain rfl : i = m := by omega
      clear hOl
      go_wp2_with fail
      go_end0
      exact ⟨U', c, rfl, hm, hO, hS.out⟩
end Go.Proofs.YtkhopfobjijnlaaGreatDoor
namespace Go.Proofs.YtkhopfobjijnlaaGreatDoor

theorem knuth_low {v1 v2 vl t u2 ul P q V S : Nat} (hV : V = (v1 * 65536 + v2) * P + vl) (hS : S = (t * 65536 + u2) * P + ul) (hul : ul < P) (hu2 : u2 < 65536) (hq : q * V ≤ S) : q * v1 ≤ t := by
  apply Classical.byContradiction
  intro hn
  have h1 : t + 1 ≤ q * v1 := by omega
  have h2 : (t + 1) * (65536 * P) ≤ q * v1 * (65536 * P) := Nat.mul_le_mul_right _ h1
  have h3 : q * v1 * (65536 * P) ≤ q * V := by
    rw [hV]
    have e : q * ((v1 * 65536 + v2) * P + vl) = q * v1 * (65536 * P) + q * (v2 * P + vl) := by grind
    omega
  have h4 : (u2 + 1) * P ≤ 65536 * P := Nat.mul_le_mul_right _ (by omega)
  have e2 : (t + 1) * (65536 * P) = t * 65536 * P + 65536 * P := by grind
  have e3 : (t * 65536 + u2) * P = t * 65536 * P + u2 * P := by grind
  have e4 : (u2 + 1) * P = u2 * P + P := by grind
  omega
theorem knuth_high {v1 v2 vl t u2 ul P h r V S : Nat} (hV : V = (v1 * 65536 + v2) * P + vl) (hS : S = (t * 65536 + u2) * P + ul) (hul : ul < P) (ht : h * v1 + r = t) (hgt : r * 65536 + u2 < h * v2) : S < h * V := by
  have h1 : (r * 65536 + u2 + 1) * P ≤ h * v2 * P := Nat.mul_le_mul_right _ hgt
  have e1 : h * V = h * v1 * 65536 * P + h * v2 * P + h * vl := by rw [hV]; grind
  have e2 : S = h * v1 * 65536 * P + (r * 65536 + u2) * P + ul := by rw [hS, ← ht]; grind
  have e3 : (r * 65536 + u2 + 1) * P = (r * 65536 + u2) * P + P := by grind
  omega
/-- The way out by the test. -/
theorem knuth_exit {v1 v2 vl t u2 ul P h r V S : Nat} (hV : V = (v1 * 65536 + v2) * P + vl) (hS : S = (t * 65536 + u2) * P + ul) (hvl : vl < P) (hv1 : 1 ≤ v1) (ht : h * v1 + r = t) (hb : h < 65536) (hle : h * v2 ≤ r * 65536 + u2) : h * V < S + V := by
  have h1 : h * v2 * P ≤ (r * 65536 + u2) * P := Nat.mul_le_mul_right _ hle
  have e1 : h * V = h * v1 * 65536 * P + h * v2 * P + h * vl := by rw [hV]; grind
  have e2 : S = h * v1 * 65536 * P + (r * 65536 + u2) * P + ul := by rw [hS, ← ht]; grind
  have h2 : h * vl ≤ 65535 * P := Nat.mul_le_mul (by omega) (by omega)
  have h3 : 1 * (65536 * P) ≤ v1 * (65536 * P) := Nat.mul_le_mul_right _ hv1
  have e3 : V = v1 * (65536 * P) + v2 * P + vl := by rw [hV]; grind
  have hP : 0 < P := by omega
  omega
/-- The way out by the break. -/
theorem knuth_break {v1 v2 vl t u2 ul P h r V S : Nat} (hV : V = (v1 * 65536 + v2) * P + vl) (hS : S = (t * 65536 + u2) * P + ul) (hvl : vl < P) (hv2 : v2 < 65536) (ht : h * v1 + r = t) (hb : h ≤ 65536) (hr : 65536 ≤ r) : h * V ≤ S := by
  have e1 : h * V = h * v1 * 65536 * P + (h * (v2 * P + vl)) := by rw [hV]; grind
  have e2 : S = h * v1 * 65536 * P + r * (65536 * P) + (u2 * P + ul) := by rw [hS, ← ht]; grind
  have h1 : (v2 + 1) * P ≤ 65536 * P := Nat.mul_le_mul_right _ hv2
  have e3 : (v2 + 1) * P = v2 * P + P := by grind
  have h2 : h * (v2 * P + vl) ≤ 65536 * (65536 * P) := Nat.mul_le_mul hb (by omega)
  have h3 : 65536 * (65536 * P) ≤ r * (65536 * P) := Nat.mul_le_mul_right _ hr
  omega
end Go.Proofs.YtkhopfobjijnlaaGreatDoor
namespace Go.Proofs.YtkhopfobjijnlaaGreatDoor
open Go.RowKit

theorem segS_head (U : List Nat) (j : Nat) : ∀ m, segS U j (m + 1) = nth U j + 65536 * segS U (j + 1) m
  | 0 => by simp [segS]
  | m + 1 => by
    have ih := segS_head U j m
    show segS U j (m + 1) + 65536 ^ (m + 1) * nth U (j + (m + 1)) = _
    rw [ih]
    show _ = nth U j + 65536 * (segS U (j + 1) m + 65536 ^ m * nth U (j + 1 + m))
    rw [show j + (m + 1) = j + 1 + m by omega, Nat.pow_succ]
    grind
theorem segS_lt {U : List Nat} (h : Digits U) (j : Nat) : ∀ m, segS U j m < 65536 ^ m
  | 0 => by simp [segS]
  | m + 1 => by
    have ih := segS_lt h j m
    have hd := h (j + m)
    simp only [segS, Nat.pow_succ]
    have : 65536 ^ m * (nth U (j + m) + 1) ≤ 65536 ^ m * 65536 := Nat.mul_le_mul_left _ hd
    rw [Nat.mul_add] at this
    omega
theorem segS_val (U : List Nat) : ∀ m, segS U 0 m = valS (U.take m)
  | 0 => rfl
  | m + 1 => by simp only [segS]; rw [segS_val U m, valS_take_any, Nat.zero_add]

/-- The shape that Knuth's laws take. -/
theorem seg_shape (U : List Nat) (j n : Nat) (hn : 2 ≤ n) : segS U j (n + 1) = ((nth U (j + n) * 65536 + nth U (j + (n - 1))) * 65536 + nth U (j + (n - 2))) * 65536 ^ (n - 2) + segS U j (n - 2) := by
  obtain ⟨k, rfl⟩ : ∃ k, n = k + 2 := ⟨n - 2, by omega⟩
  simp only [segS, Nat.add_sub_cancel, show k + 2 - 1 = k + 1 by omega, Nat.pow_succ]
  grind
theorem val_shape {V : List Nat} (hn : 2 ≤ V.length) : valS V = (nth V (V.length - 1) * 65536 + nth V (V.length - 2)) * 65536 ^ (V.length - 2) + valS (V.take (V.length - 2)) := by
  have h1 := valS_take_any V (V.length - 1)
  have h2 := valS_take_any V (V.length - 2)
  rw [show V.length - 1 + 1 = V.length by omega, List.take_length] at h1
  rw [show V.length - 2 + 1 = V.length - 1 by omega] at h2
  rw [h1, h2]
  obtain ⟨k, hk⟩ : ∃ k, V.length = k + 2 := ⟨V.length - 2, by omega⟩
  rw [hk]
  simp only [Nat.add_sub_cancel, show k + 2 - 1 = k + 1 by omega, Nat.pow_succ]
  grind
end Go.Proofs.YtkhopfobjijnlaaGreatDoor
namespace Go.Proofs.YtkhopfobjijnlaaGreatDoor
open Go.RowKit

theorem segS_add (U : List Nat) (j k : Nat) : ∀ m, segS U j (k + m) = segS U j k + 65536 ^ k * segS U (j + k) m
  | 0 => by simp [segS]
  | m + 1 => by
    have ih := segS_add U j k m
    show segS U j (k + m) + 65536 ^ (k + m) * nth U (j + (k + m)) = segS U j k + 65536 ^ k * (segS U (j + k) m + 65536 ^ m * nth U (j + k + m))
    rw [ih, Nat.pow_add, show j + (k + m) = j + k + m by omega]
    grind
theorem segS_congr {U W' : List Nat} {j : Nat} : ∀ m, (∀ k, k < m → nth U (j + k) = nth W' (j + k)) → segS U j m = segS W' j m
  | 0, _ => rfl
  | m + 1, h => by simp only [segS]; rw [segS_congr m (fun k hk => h k (by omega)), h m (by omega)]

/-- What spec.DivMod has done: the digits of the quotient from j on. -/
structure DivAt (T : Nat) (V U O : List Nat) (m j : Nat) : Prop where
  lenU : U.length = m + V.length
  lenO : O.length = m
  digU : Digits U
  digO : Digits O
  top : segS U j V.length < valS V
  zero : ∀ k, j + V.length ≤ k → nth U k = 0
  val : T = segS U 0 (j + V.length) + 65536 ^ j * valS (O.drop j) * valS V
theorem DivAt.next {T m j q : Nat} {V U U' O : List Nat} (h : DivAt T V U O m (j + 1)) (hj : j < m) (hq : q < 65536) (hd : Digits U') (hl : U'.length = U.length)
    (hrest : ∀ k, ¬ (j ≤ k ∧ k < j + (V.length + 1)) → nth U' k = nth U k) (hseg : segS U' j (V.length + 1) + q * valS V = segS U j (V.length + 1)) (hlt : segS U' j (V.length + 1) < valS V) (hV : valS V < 65536 ^ V.length) :
    DivAt T V U' (O.set j q) m j := by
  have hlo := h.lenO
  have htop : nth U' (j + V.length) = 0 := by
    apply Classical.byContradiction
    intro hne
    have e : segS U' j (V.length + 1) = segS U' j V.length + 65536 ^ V.length * nth U' (j + V.length) := rfl
    have : 65536 ^ V.length * 1 ≤ 65536 ^ V.length * nth U' (j + V.length) := Nat.mul_le_mul_left _ (by omega)
    omega
  have e1 : segS U' j (V.length + 1) = segS U' j V.length := by
    show segS U' j V.length + 65536 ^ V.length * nth U' (j + V.length) = _
    rw [htop, Nat.mul_zero, Nat.add_zero]
  refine ⟨hl.trans h.lenU, by simp [hlo], hd, h.digO.set _ hq, by rw [← e1]; exact hlt, fun k hk => ?_, ?_⟩
  · by_cases hk2 : k = j + V.length
    · rw [hk2]; exact htop
    · rw [hrest k (by omega)]; exact h.zero k (by omega)
  · have h1 := h.val
    have h2 := segS_add U 0 j (V.length + 1)
    have h3 := segS_add U' 0 j V.length
    have h4 : segS U' 0 j = segS U 0 j := segS_congr j (fun k hk => hrest _ (by omega))
    have h5 := valS_drop (O.set j q) j
    have h6 : (O.set j q).drop (j + 1) = O.drop (j + 1) := List.drop_set_of_lt (by omega)
    rw [nth_set_same (by omega), h6] at h5
    rw [Nat.zero_add] at h2 h3
    rw [show j + 1 + V.length = j + (V.length + 1) by omega, h2, Nat.pow_succ] at h1
    rw [h3, h4, h5, ← e1]
    rw [h1, ← hseg]
    grind
end Go.Proofs.YtkhopfobjijnlaaGreatDoor
namespace Go.Proofs.YtkhopfobjijnlaaGreatDoor
open Go.RowKit

theorem cmpV_neg (a b : Nat) : (cmpV a b < 0) ↔ a < b := by
  unfold cmpV
  split
  · omega
  · split <;> omega

/-- What spec.DivMod hands back. -/
def DivPost (A B : List Nat) (w : World) (e : Ending) (w' : World) : Prop :=
  ∃ v1 v2 Q R, e = .returned (.tuple #[v1, v2]) ∧ Mod [] w w' ∧ SliceK i64 w' v1 Q ∧ Canon Q ∧ valS Q = valS A / valS B ∧ Q.length ≤ A.length ∧ SliceK i64 w' v2 R ∧ Canon R ∧ valS R = valS A % valS B ∧ R.length ≤ A.length

set_option maxRecDepth 100000 in
theorem c_DivMod_lt (va vb : Value) (A B : List Nat) (w : World) (ha : SliceK i64 w va A) (hb : SliceK i64 w vb B) (cA : Canon A) (cB : Canon B) (lA : A.length ≤ 50000) (hlt : valS A < valS B) :
    Calls Tryz.prog 28 #[va, vb] w (DivPost A B w) := by
  have hc := (cmpV_neg (valS A) (valS B)).2 hlt
  have HQ := hide (show valS A / valS B = 0 ∧ valS A % valS B = valS A from ⟨Nat.div_eq_of_lt hlt, Nat.mod_eq_of_lt hlt⟩)
  obtain ⟨cv, hcv⟩ : ∃ cv, cv = cmpV (valS A) (valS B) := ⟨_, rfl⟩
  rw [← hcv] at hc
  go_enter Tryz.func28, Tryz.ntmps28
  go_wp2_with fail
  refine (c_Cmp va vb A B _ ha hb cA cB (by omega)).mono ?_
  rintro e w1 ⟨rfl, m1⟩
  rw [← hcv]
  clear hcv hlt
  have hnil : SliceK i64 (w1.alloc (.cells #[] 3)) (sl w1.heap.size 0 0 0) [] := .inr ⟨w1.heap.size, 0, 0, rfl, Nat.le_refl _, fun i hi => by simp at hi⟩
  have ha2 : SliceK i64 (w1.alloc (.cells #[] 3)) va A := (ha.mod m1 (by simp)).mod ((Mod.refl [] _).alloc _) (by simp)
  have hm2 : Mod [] w (w1.alloc (.cells #[] 3)) := m1.alloc _
  go_wp2_with fail
  go_ret2
  refine ⟨_, va, [], A, rfl, hm2, hnil, ⟨fun i => by rw [nth_ge (by simp)]; omega, by simp⟩, ?_, by simp, ha2, cA, HQ.out.2.symm, Nat.le_refl _⟩
  rw [HQ.out.1]
  rfl

set_option maxRecDepth 100000 in
set_option maxHeartbeats 1000000 in
theorem c_DivMod_one (va vb : Value) (A B : List Nat) (w : World) (ha : SliceK i64 w va A) (hb : SliceK i64 w vb B) (cA : Canon A) (cB : Canon B) (lA : A.length ≤ 50000) (hge : valS B ≤ valS A) (h1 : B.length = 1) :
    Calls Tryz.prog 28 #[va, vb] w (DivPost A B w) := by
  have hc : ¬ cmpV (valS A) (valS B) < 0 := by rw [cmpV_neg]; omega
  obtain ⟨d, rfl⟩ : ∃ d, B = [d] := by
    cases B with
    | nil => simp at h1
    | cons d l =>
      have : l = [] := List.eq_nil_of_length_eq_zero (by simpa using h1)
      exact ⟨d, by rw [this]⟩
  have hd0 : 0 < d := by
    have := cB.top (by simp)
    have e : nth [d] ([d].length - 1) = d := rfl
    rw [e] at this
    omega
  have hd : d < 65536 := cB.digits 0
  have hvB : valS [d] = d := by simp [valS]
  have hA0 : A.length ≠ 0 := by
    intro h0
    rw [List.eq_nil_of_length_eq_zero h0, hvB] at hge
    simp [valS] at hge
    omega
  rw [hvB] at hc hge
  obtain ⟨cv, hcv⟩ : ∃ cv, cv = cmpV (valS A) d := ⟨_, rfl⟩
  rw [← hcv] at hc
  obtain ⟨ab, cb, hvb⟩ := hb.lit
  subst hvb
  have H1 := hide h1
  clear h1
  have C := hide (c_Cmp va (.slice ab [d].length cb) A [d] w ha hb cA cB (by omega))
  rw [hvB, ← hcv] at C
  simp only [List.length_singleton] at C ⊢
  have HV := hide hvB
  have hb' : SliceK i64 w (.slice ab 1 cb) [d] := hb
  clear hcv hvB hb
  go_enter Tryz.func28, Tryz.ntmps28
  go_wp2_with fail
  refine C.out.mono ?_
  rintro e w1 ⟨rfl, m1⟩
  obtain ⟨b, o, rfl, _, hcB⟩ := (hb'.mod m1 (by simp)).at (by simp)
  have hr := hcB 0 (by simp)
  rw [Nat.add_zero, show nth [d] 0 = d from rfl] at hr
  have ha1 := ha.mod m1 (by simp)
  clear hcB
  go_wp2_with fail
  refine (c_byDigit va A d _ ha1 cA.digits hd0 hd (by omega)).mono ?_
  rintro e w2 ⟨v1, Q, rfl, m2, hs2, hc2, hv2, hl2⟩
  have m12 : Mod [] w w2 := Mod.trans (U := []) m1 m2 (by simp) (by simp)
  obtain ⟨r, hr'⟩ : ∃ r, r = valS A % d := ⟨_, rfl⟩
  have hrd : r < d := by rw [hr']; exact Nat.mod_lt _ hd0
  rw [← hr']
  have HR := hide hr'
  have HV2 := hide hv2
  clear hr' hv2
  go_wp2_with fail
  refine (c_Small r (by omega) _).mono ?_
  rintro e w3 ⟨v2, R, rfl, m3, o3, c3, hv3⟩
  have m13 : Mod [] w w3 := Mod.trans (U := []) m12 m3 (by simp) (by simp)
  have hs3 := hs2.mod m3 (by simp)
  have hlR : Hid (R.length ≤ A.length) := by
    refine hide ?_
    rcases Nat.lt_or_ge R.length 2 with h | h
    · omega
    · have h5 := valS_ge c3 (by omega)
      rw [hv3] at h5
      have h6 : 65536 ^ 1 ≤ 65536 ^ (R.length - 1) := Nat.pow_le_pow_right (by omega) (by omega)
      omega
  have HV3 := hide hv3
  clear hv3
  go_wp2_with fail
  go_ret2
  exact ⟨v1, v2, Q, R, rfl, m13, hs3, hc2, by rw [HV.out]; exact HV2.out, hl2, o3.slice, c3, by rw [HV.out, HV3.out, HR.out], hlR.out⟩
end Go.Proofs.YtkhopfobjijnlaaGreatDoor
namespace Go.Proofs.YtkhopfobjijnlaaGreatDoor
open Go.RowKit

theorem norm_shape {B L : List Nat} {s : Nat} (cB : Canon B) (cL : Canon L) (hB : 0 < B.length) (hs : s < 16) (hL : valS L = valS B * 2 ^ s) (h1 : 32768 ≤ nth B (B.length - 1) * 2 ^ s) (h2 : nth B (B.length - 1) * 2 ^ s < 65536) :
    L.length = B.length ∧ 32768 ≤ nth L (L.length - 1) := by
  obtain ⟨k, hk⟩ : ∃ k, B.length = k + 1 := ⟨B.length - 1, by omega⟩
  rw [hk, Nat.add_sub_cancel] at h1 h2
  have e1 := valS_take_succ (L := B) (i := k) (by omega)
  rw [← hk, List.take_length] at e1
  have e2 := valS_lt (cB.digits.take k)
  rw [List.length_take, Nat.min_eq_left (by omega)] at e2
  have hp : 65536 = 2 ^ s * 2 ^ (16 - s) := by rw [← Nat.pow_add, show s + (16 - s) = 16 by omega]
  have h3 : (nth B k + 1) * 2 ^ s ≤ 65536 := by
    have : nth B k < 2 ^ (16 - s) := by
      apply Nat.lt_of_mul_lt_mul_right (a := 2 ^ s)
      rw [Nat.mul_comm (2 ^ (16 - s)), ← hp]
      exact h2
    calc (nth B k + 1) * 2 ^ s ≤ 2 ^ (16 - s) * 2 ^ s := Nat.mul_le_mul_right _ this
      _ = 65536 := by rw [Nat.mul_comm, ← hp]
  have hlo : 32768 * 65536 ^ k ≤ valS L := by
    have := Nat.mul_le_mul_right (65536 ^ k) h1
    have e : valS L = valS (B.take k) * 2 ^ s + nth B k * 2 ^ s * 65536 ^ k := by rw [hL, e1]; grind
    omega
  have hhi : valS L < 65536 * 65536 ^ k := by
    have h4 := Nat.mul_le_mul_right (65536 ^ k) h3
    have h5 : valS B < (nth B k + 1) * 65536 ^ k := by rw [e1]; grind
    have h6 : valS B * 2 ^ s < (nth B k + 1) * 65536 ^ k * 2 ^ s := Nat.mul_lt_mul_of_pos_right h5 (Nat.pow_pos (by omega))
    have e : (nth B k + 1) * 65536 ^ k * 2 ^ s = (nth B k + 1) * 2 ^ s * 65536 ^ k := by grind
    omega
  have hpos : 0 < 65536 ^ k := Nat.pow_pos (by omega)
  have hlen : L.length = k + 1 := by
    have h7 := valS_lt cL.digits
    have hne : L.length ≠ 0 := by
      intro h0
      rw [h0] at h7
      omega
    have h8 := valS_ge cL hne
    rcases Nat.lt_trichotomy L.length (k + 1) with h | h | h
    · have : 65536 ^ L.length ≤ 65536 ^ k := Nat.pow_le_pow_right (by omega) (by omega)
      omega
    · exact h
    · have : 65536 ^ (k + 1) ≤ 65536 ^ (L.length - 1) := Nat.pow_le_pow_right (by omega) (by omega)
      rw [Nat.pow_succ] at this
      omega
  refine ⟨by omega, ?_⟩
  rw [hlen, Nat.add_sub_cancel]
  have e3 := valS_take_succ (L := L) (i := k) (by omega)
  rw [← hlen, List.take_length] at e3
  have e4 := valS_lt (cL.digits.take k)
  rw [List.length_take, Nat.min_eq_left (by omega)] at e4
  apply Classical.byContradiction
  intro hlt
  have h9 : (nth L k + 1) * 65536 ^ k ≤ 32768 * 65536 ^ k := Nat.mul_le_mul_right _ (by omega)
  have e5 : (nth L k + 1) * 65536 ^ k = 65536 ^ k * nth L k + 65536 ^ k := by grind
  omega
end Go.Proofs.YtkhopfobjijnlaaGreatDoor
namespace Go.Proofs.YtkhopfobjijnlaaGreatDoor
open Go.RowKit

structure RoundOk (U V : List Nat) (j : Nat) : Prop where
  two : 2 ≤ V.length
  canon : Canon V
  norm : 32768 ≤ nth V (V.length - 1)
  digU : Digits U
  top : segS U (j + 1) V.length < valS V

theorem RoundOk.pos {U V : List Nat} {j : Nat} (h : RoundOk U V j) : 0 < valS V := by have := h.top; omega
theorem RoundOk.lt {U V : List Nat} {j : Nat} (h : RoundOk U V j) : segS U j (V.length + 1) < 65536 * valS V := by
  rw [segS_head]
  have h1 := h.top
  have h2 := h.digU j
  omega
theorem RoundOk.vl {U V : List Nat} {j : Nat} (h : RoundOk U V j) : valS (V.take (V.length - 2)) < 65536 ^ (V.length - 2) := by
  have := valS_lt (h.canon.digits.take (V.length - 2))
  rwa [List.length_take, Nat.min_eq_left (by omega)] at this
theorem RoundOk.topd {U V : List Nat} {j : Nat} (h : RoundOk U V j) : nth U (j + V.length) ≤ nth V (V.length - 1) := by
  have h2 := h.two
  have h1 := h.top
  obtain ⟨k, hk⟩ : ∃ k, V.length = k + 1 := ⟨V.length - 1, by omega⟩
  have e1 : segS U (j + 1) V.length = segS U (j + 1) k + 65536 ^ k * nth U (j + V.length) := by
    rw [hk]
    show segS U (j + 1) k + 65536 ^ k * nth U (j + 1 + k) = _
    rw [show j + 1 + k = j + (k + 1) by omega]
  have e2 := valS_take_any V k
  rw [← hk, List.take_length] at e2
  have e3 := valS_lt (h.canon.digits.take k)
  rw [List.length_take, Nat.min_eq_left (by omega)] at e3
  rw [hk, Nat.add_sub_cancel, ← hk]
  apply Classical.byContradiction
  intro hn
  have h3 : 65536 ^ k * (nth V k + 1) ≤ 65536 ^ k * nth U (j + V.length) := Nat.mul_le_mul_left _ (by omega)
  rw [Nat.mul_add, Nat.mul_one] at h3
  omega

/-- The estimate on its way: h and r. -/
structure Est (U V : List Nat) (j h r : Nat) : Prop where
  eq : h * nth V (V.length - 1) + r = nth U (j + V.length) * 65536 + nth U (j + (V.length - 1))
  low : segS U j (V.length + 1) / valS V ≤ h
theorem Est.start {U V : List Nat} {j t : Nat} (H : RoundOk U V j) (ht : t = nth U (j + V.length) * 65536 + nth U (j + (V.length - 1))) : Est U V j (t / nth V (V.length - 1)) (t % nth V (V.length - 1)) := by
  subst ht
  refine ⟨by rw [Nat.mul_comm]; exact Nat.div_add_mod _ _, ?_⟩
  have hv := H.norm
  have h0 : segS U j (V.length - 2) < 65536 ^ (V.length - 2) := segS_lt H.digU _ _
  have h1 := knuth_low (q := segS U j (V.length + 1) / valS V) (val_shape H.two) (seg_shape U j V.length H.two) h0 (H.digU _) (Nat.div_mul_le_self _ _)
  exact (Nat.le_div_iff_mul_le (by omega)).2 h1
theorem Est.step {U V : List Nat} {j h r : Nat} (H : RoundOk U V j) (E : Est U V j h r) (hc : 65536 ≤ h ∨ r * 65536 + nth U (j + (V.length - 2)) < h * nth V (V.length - 2)) :
    1 ≤ h ∧ Est U V j (h - 1) (r + nth V (V.length - 1)) := by
  have hq : segS U j (V.length + 1) / valS V < h := by
    rcases hc with hc | hc
    · have h1 : segS U j (V.length + 1) / valS V < 65536 := (Nat.div_lt_iff_lt_mul H.pos).2 H.lt
      omega
    · have h0 : segS U j (V.length - 2) < 65536 ^ (V.length - 2) := segS_lt H.digU _ _
      exact (Nat.div_lt_iff_lt_mul H.pos).2 (knuth_high (val_shape H.two) (seg_shape U j V.length H.two) h0 E.eq hc)
  have h0 : 0 < h := Nat.lt_of_le_of_lt (Nat.zero_le _) hq
  obtain ⟨k, rfl⟩ : ∃ k, h = k + 1 := ⟨h - 1, by omega⟩
  refine ⟨h0, ⟨?_, Nat.le_of_lt_succ hq⟩⟩
  have := E.eq
  rw [← this, Nat.add_sub_cancel, Nat.add_mul]
  omega

/-- The estimate that is taken: right or one too many. -/
structure Fine (U V : List Nat) (j h : Nat) : Prop where
  lt : h < 65536
  low : segS U j (V.length + 1) / valS V ≤ h
  high : h * valS V < segS U j (V.length + 1) + valS V
theorem Est.exit {U V : List Nat} {j h r : Nat} (H : RoundOk U V j) (E : Est U V j h r) (hh : h < 65536) (hle : h * nth V (V.length - 2) ≤ r * 65536 + nth U (j + (V.length - 2))) : Fine U V j h := by
  have hv := H.norm
  exact ⟨hh, E.low, knuth_exit (val_shape H.two) (seg_shape U j V.length H.two) H.vl (by omega) E.eq hh hle⟩
theorem Est.brk {U V : List Nat} {j h r : Nat} (H : RoundOk U V j) (E : Est U V j h r) (hr : 65536 ≤ r) : Fine U V j h := by
  have hv := H.norm
  have hp := H.pos
  have hh : h < 65536 := by
    apply Nat.lt_of_mul_lt_mul_right (a := nth V (V.length - 1))
    have h1 := E.eq
    have h2 := H.topd
    have h3 := H.digU (j + (V.length - 1))
    have h4 : nth U (j + V.length) * 65536 ≤ nth V (V.length - 1) * 65536 := Nat.mul_le_mul_right _ h2
    rw [Nat.mul_comm 65536]
    omega
  have h5 := knuth_break (val_shape H.two) (seg_shape U j V.length H.two) H.vl (H.canon.digits _) E.eq (by omega) hr
  exact ⟨hh, E.low, by omega⟩
/-- h and r are small. -/
theorem Est.small {U V : List Nat} {j h r : Nat} (H : RoundOk U V j) (E : Est U V j h r) : h < 131072 := by
  have hv := H.norm
  have h1 := E.eq
  have h2 := H.digU (j + V.length)
  have h3 := H.digU (j + (V.length - 1))
  apply Classical.byContradiction
  intro hn
  have : 131072 * 32768 ≤ h * nth V (V.length - 1) := Nat.mul_le_mul (by omega) hv
  omega

theorem take_more (V : List Nat) : V.take (V.length + 1) = V := List.take_of_length_le (by omega)
theorem Fine.keep {U V U' : List Nat} {j h p c : Nat} (H : RoundOk U V j) (F : Fine U V j h) (K : TakenAt U V h j (V.length + 1) U' (V.length + 1) p c) (hc : c ≠ 1) :
    segS U' j (V.length + 1) + h * valS V = segS U j (V.length + 1) ∧ segS U' j (V.length + 1) < valS V := by
  have h1 := K.val
  have h2 := K.fin (by omega)
  have h3 := K.owed
  have hp := H.pos
  rw [take_more, h2, show c = 0 by omega, Nat.add_zero, Nat.mul_zero, Nat.add_zero] at h1
  refine ⟨h1, ?_⟩
  have h4 : segS U j (V.length + 1) < (h + 1) * valS V := (Nat.div_lt_iff_lt_mul hp).1 (by have := F.low; omega)
  rw [Nat.add_mul] at h4
  omega
theorem Fine.over {U V U' U'' : List Nat} {j h p d : Nat} (H : RoundOk U V j) (F : Fine U V j h) (K : TakenAt U V h j (V.length + 1) U' (V.length + 1) p 1) (B : BackAt U' V j U'' (V.length + 1) d) :
    1 ≤ h ∧ segS U'' j (V.length + 1) + (h - 1) * valS V = segS U j (V.length + 1) ∧ segS U'' j (V.length + 1) < valS V := by
  have h1 := K.val
  have h2 := K.fin (by omega)
  have hp := H.pos
  have h3 := B.val
  have h6 := F.high
  rw [take_more] at h1 h3
  rw [h2, Nat.zero_add, Nat.mul_one] at h1
  have h4 := segS_lt K.digits j (V.length + 1)
  have h5 := segS_lt B.digits j (V.length + 1)
  have h7 : valS V < 65536 ^ (V.length + 1) := by
    have := valS_lt H.canon.digits
    have h8 : 65536 ^ V.length ≤ 65536 ^ (V.length + 1) := Nat.pow_le_pow_right (by omega) (by omega)
    omega
  have hc := B.carry
  have h0 : h ≠ 0 := by intro h0; rw [h0, Nat.zero_mul] at h1; omega
  obtain ⟨k, rfl⟩ : ∃ k, h = k + 1 := ⟨h - 1, by omega⟩
  rw [Nat.add_sub_cancel]
  rw [Nat.add_mul, Nat.one_mul] at h1 h6
  have hd : d = 1 := by
    have : d ≠ 0 := by
      intro h0; rw [h0, Nat.mul_zero] at h3; omega
    omega
  rw [hd, Nat.mul_one] at h3
  omega
end Go.Proofs.YtkhopfobjijnlaaGreatDoor
