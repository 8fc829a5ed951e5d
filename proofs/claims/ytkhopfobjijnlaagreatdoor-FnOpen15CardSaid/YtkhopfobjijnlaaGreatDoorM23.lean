/- The specification's numbers by their values alone. bigmod's Sub, SubOne, montgomeryRepresentation, montgomeryReduction, Mul of an odd modulus, Modulus.Nat. bigmod's montgomeryRepresentation, montgomeryReduction, Mul of an odd modulus, Equal, SetUint. -/
import Derived.Test.YtkhopfobjijnlaaGreatDoorM22
import Derived.Test.YtkhopfobjijnlaaGreatDoorM17
set_option linter.all false
set_option exponentiation.threshold 7000000
namespace Go.Proofs.YtkhopfobjijnlaaGreatDoor
open Go.RowKit

/-- A number of the specification in a value. -/
def NatV (w : World) (v : Value) (n : Nat) : Prop := ∃ L, SliceK i64 w v L ∧ Canon L ∧ valS L = n
theorem NatV.mod {w w' : World} {v : Value} {n : Nat} (h : NatV w v n) (m : Mod [] w w') : NatV w' v n := by
  obtain ⟨L, h1, h2, h3⟩ := h
  exact ⟨L, h1.mod m (by simp), h2, h3⟩
theorem NatV.lit {w : World} {v : Value} {n : Nat} (h : NatV w v n) : ∃ a k c, v = .slice a k c := by
  obtain ⟨L, h1, h2, h3⟩ := h
  obtain ⟨a, c, e⟩ := h1.lit
  exact ⟨a, _, c, e⟩
theorem n_Bit (i : Nat) (hi : i ≤ 100000) (w : World) : Calls Tryz.prog 24 #[i64 i] w fun e w' => ∃ v, e = .returned v ∧ Mod [] w w' ∧ NatV w' v (2 ^ i) := by
  refine (c_Bit i hi w).mono ?_
  rintro e w' ⟨v, rfl, m, h⟩
  exact ⟨v, rfl, m, _, h.slice, bitL_canon i, bitL_val i⟩
theorem n_Small (n : Nat) (hn : n < 2 ^ 62) (w : World) : Calls Tryz.prog 25 #[i64 n] w fun e w' => ∃ v, e = .returned v ∧ Mod [] w w' ∧ NatV w' v n := by
  refine (c_Small n hn w).mono ?_
  rintro e w' ⟨v, L, rfl, m, h, c, e⟩
  exact ⟨v, rfl, m, _, h.slice, c, e⟩
theorem n_Add (va vb : Value) (a b : Nat) (w : World) (ha : NatV w va a) (hb : NatV w vb b) (la : a < lim) (lb : b < lim) : Calls Tryz.prog 27 #[va, vb] w fun e w' => ∃ v, e = .returned v ∧ Mod [] w w' ∧ NatV w' v (a + b) := by
  obtain ⟨A, h1, h2, rfl⟩ := ha
  obtain ⟨B, g1, g2, rfl⟩ := hb
  have l1 := h2.lim la
  have l2 := g2.lim lb
  refine (c_sAdd va vb A B w h1 g1 h2.digits g2.digits (by omega) (by omega)).mono ?_
  rintro e w' ⟨v, L, rfl, m, h, c, e, -⟩
  exact ⟨v, rfl, m, L, h, c, e⟩
theorem n_Sub (va vb : Value) (a b : Nat) (w : World) (ha : NatV w va a) (hb : NatV w vb b) (la : a < lim) (hle : b ≤ a) : Calls Tryz.prog 23 #[va, vb] w fun e w' => ∃ v, e = .returned v ∧ Mod [] w w' ∧ NatV w' v (a - b) := by
  obtain ⟨A, h1, h2, rfl⟩ := ha
  obtain ⟨B, g1, g2, rfl⟩ := hb
  have l1 := h2.lim la
  refine (c_sSub va vb A B w h1 g1 h2.digits g2 hle (by omega)).mono ?_
  rintro e w' ⟨v, L, rfl, m, h, c, e, -⟩
  exact ⟨v, rfl, m, L, h, c, e⟩
theorem n_Mul (va vb : Value) (a b : Nat) (w : World) (ha : NatV w va a) (hb : NatV w vb b) (la : a < lim) (lb : b < lim) : Calls Tryz.prog 29 #[va, vb] w fun e w' => ∃ v, e = .returned v ∧ Mod [] w w' ∧ NatV w' v (a * b) := by
  obtain ⟨A, h1, h2, rfl⟩ := ha
  obtain ⟨B, g1, g2, rfl⟩ := hb
  have l1 := h2.lim la
  have l2 := g2.lim lb
  refine (c_sMul va vb A B w h1 g1 h2.digits g2.digits (by omega) (by omega)).mono ?_
  rintro e w' ⟨v, L, rfl, m, h, c, e, -⟩
  exact ⟨v, rfl, m, L, h, c, e⟩
theorem n_Gcd (va vb : Value) (a b : Nat) (w : World) (ha : NatV w va a) (hb : NatV w vb b) (la : a < lim) (lb : b < lim) : Calls Tryz.prog 30 #[va, vb] w fun e w' => ∃ v, e = .returned v ∧ Mod [] w w' ∧ NatV w' v (Nat.gcd a b) := by
  obtain ⟨A, h1, h2, rfl⟩ := ha
  obtain ⟨B, g1, g2, rfl⟩ := hb
  have l1 := h2.lim la
  have l2 := g2.lim lb
  refine (c_Gcd va vb A B w h1 g1 h2 g2 (by omega) (by omega)).mono ?_
  rintro e w' ⟨v, L, rfl, m, h, c, e⟩
  exact ⟨v, rfl, m, L, h, c, e⟩
theorem n_DivMod (va vb : Value) (a b : Nat) (w : World) (ha : NatV w va a) (hb : NatV w vb b) (la : a < lim) (hb0 : b ≠ 0) : Calls Tryz.prog 28 #[va, vb] w fun e w' => ∃ v u, e = .returned (.tuple #[v, u]) ∧ Mod [] w w' ∧ NatV w' v (a / b) ∧ NatV w' u (a % b) := by
  obtain ⟨A, h1, h2, rfl⟩ := ha
  obtain ⟨B, g1, g2, rfl⟩ := hb
  have l1 := h2.lim la
  refine (c_DivMod va vb A B w h1 g1 h2 g2 (by omega) hb0).mono ?_
  rintro e w' ⟨v, u, Q, R, rfl, m, k1, k2, k3, -, k4, k5, k6, -⟩
  exact ⟨v, u, rfl, m, ⟨Q, k1, k2, k3⟩, ⟨R, k4, k5, k6⟩⟩
theorem n_PowerMod (va ve vm : Value) (a e m : Nat) (w : World) (ha : NatV w va a) (he : NatV w ve e) (hm : NatV w vm m) (la : a < lim) (le : e < lim) (lm : m < lim) (h0 : m ≠ 0) : Calls Tryz.prog 36 #[va, ve, vm] w fun r w' => ∃ v, r = .returned v ∧ Mod [] w w' ∧ NatV w' v (a ^ e % m) := by
  obtain ⟨A, h1, h2, rfl⟩ := ha
  obtain ⟨E, g1, g2, rfl⟩ := he
  obtain ⟨M, k1, k2, rfl⟩ := hm
  refine (c_PowerMod va ve vm A E M w h1 g1 k1 h2 g2 k2 (h2.lim la) (g2.lim le) (k2.lim lm) h0).mono ?_
  rintro e w' ⟨v, L, rfl, m, h, c, e, -⟩
  exact ⟨v, rfl, m, L, h, c, e⟩
theorem n_OfBytes (v : Value) (B : List Nat) (w : World) (h : SliceB w v B) (hB : Bytes B) (hbig : B.length ≤ 100000) : Calls Tryz.prog 34 #[v] w fun e w' => ∃ v', e = .returned v' ∧ Mod [] w w' ∧ NatV w' v' (bval B) := by
  refine (c_OfBytes v B w h hB hbig).mono ?_
  rintro e w' ⟨v, L, rfl, m, h, c, e, -⟩
  exact ⟨v, rfl, m, L, h, c, e⟩
theorem n_Length (va : Value) (a : Nat) (w : World) (ha : NatV w va a) (la : a < lim) : Calls Tryz.prog 5 #[va] w fun e w' => e = .returned (i64 ((blen a + 7) / 8)) ∧ Mod [] w w' := by
  obtain ⟨A, h1, h2, rfl⟩ := ha
  have l1 := h2.lim la
  exact c_Length va A w h1 h2 (by omega)
theorem n_Cmp (va vb : Value) (a b : Nat) (w : World) (ha : NatV w va a) (hb : NatV w vb b) (la : a < lim) : Calls Tryz.prog 35 #[va, vb] w fun e w' => e = .returned (.int .i64 (cmpV a b)) ∧ Mod [] w w' := by
  obtain ⟨A, h1, h2, rfl⟩ := ha
  obtain ⟨B, g1, g2, rfl⟩ := hb
  have l1 := h2.lim la
  exact c_Cmp va vb A B w h1 g1 h2 g2 (by omega)
theorem n_Make (va : Value) (a : Nat) (w : World) (ha : NatV w va a) : Calls Tryz.prog 32 #[.bool false, va] w fun e w' => ∃ v, e = .returned v ∧ Mod [] w w' ∧ IntIs w' v (a : Int) := by
  obtain ⟨A, h1, h2, rfl⟩ := ha
  refine (c_Make false va A w h1 h2).mono ?_
  rintro e w' ⟨v, rfl, m, h⟩
  rw [if_neg (by simp)] at h
  exact ⟨v, rfl, m, h⟩
/-- Bytes that lie in the world. -/
def ByV (w : World) (v : Value) (B : List Nat) : Prop := SliceB w v B ∧ Bytes B ∧ ∀ b o n c, v = sl b o n c → b < w.heap.size
theorem ByV.mod {w w' : World} {v : Value} {B : List Nat} (h : ByV w v B) (m : Mod [] w w') : ByV w' v B := ⟨h.1.mod m (by simp), h.2.1, fun b o n c e => Nat.lt_of_lt_of_le (h.2.2 b o n c e) m.size⟩
theorem n_Bytes (va : Value) (a n : Nat) (w : World) (ha : NatV w va a) (hn : n ≤ 400000) (hfit : a < 256 ^ n) : Calls Tryz.prog 33 #[va, i64 n] w fun e w' => ∃ v B, e = .returned v ∧ Mod [] w w' ∧ ByV w' v B ∧ B.length = n ∧ bval B = a := by
  obtain ⟨A, h1, h2, rfl⟩ := ha
  refine (c_sBytes va A n w h1 h2.digits hn hfit).mono ?_
  rintro e w' ⟨v, O, rfl, m, h, hl, hB, hv⟩
  refine ⟨v, O, rfl, m, ⟨?_, hB, fun b o n c e => (h.lt b o n c e).2⟩, hl, hv⟩
  rcases h.slice with ⟨h3, h4⟩ | ⟨b, o, c, h3, h4, h5⟩
  · exact .inl ⟨h3, h4⟩
  · exact .inr (.inr ⟨b, o, c, h3, h4, h5⟩)
end Go.Proofs.YtkhopfobjijnlaaGreatDoor
namespace Go.Proofs.YtkhopfobjijnlaaGreatDoor
open Go.RowKit

/-- What Sub leaves. -/
def subV (a b m : Nat) : Nat := if b ≤ a then a - b else a + m - b

theorem sub_row {X V M : List Nat} (hX : Words X) (hV : Words V) (hM : Words M) (h1 : V.length = X.length) (h2 : M.length = X.length) (hb : val V ≤ val X + val M) :
    val (selW (subC X V X.length) (subL X V X.length) (addL (subL X V X.length) M X.length)) = subV (val X) (val V) (val M) := by
  have e1 := subC_whole hX hV h1
  have e2 := sub_whole hX hV h1
  have hlX := val_lt hX
  have hlS := subL_length X V X.length
  unfold subV
  by_cases h : val X < val V
  · rw [if_pos h] at e1
    rw [e1] at e2 ⊢
    rw [if_neg (by omega)]
    show val (addL (subL X V X.length) M X.length) = _
    have e3 := add_whole (X := subL X V X.length) (Y := M) (by rw [hlS]; exact h2)
    rw [hlS] at e3
    have hc := addC_le (subL_words (Y := V) hX X.length) hM X.length
    have hlM := val_lt hM
    rw [h2] at hlM
    have hc1 : addC (subL X V X.length) M X.length = 1 := by
      rcases (by omega : addC (subL X V X.length) M X.length = 0 ∨ addC (subL X V X.length) M X.length = 1) with h0 | h0
      · rw [h0] at e3
        have hl := val_lt (addL_words (Y := M) (subL_words (Y := V) hX X.length) X.length)
        rw [addL_length, hlS] at hl
        omega
      · exact h0
    rw [hc1] at e3
    omega
  · rw [if_neg h] at e1
    rw [e1] at e2 ⊢
    rw [if_pos (by omega)]
    show val (subL X V X.length) = _
    omega

theorem MHead.drew {w : World} {m x k : Nat} {odd : Bool} {r : Value} (h : MHead w m x odd k r) : MHead w.drew m x odd k r := h

set_option maxRecDepth 100000 in
set_option maxHeartbeats 1600000 in
theorem c_SubM (w0 w : World) (n m y q x p z pz : Nat) (M Q L R V S : List Nat) (h0 : Mod [] w0 w) (hM : ModIs w0 n m y q M Q) (hx : NatIs w x p L R) (hz : NatIs w z pz V S) (gp : w0.heap.size ≤ p)
    (wL : Words L) (lL : L.length = M.length) (wV : Words V) (lV : V.length = M.length) (hb : val V ≤ val L + val M) :
    Calls Tryz.prog 62 #[ptr x, ptr z, ptr m] w fun e w' => ∃ L', e = .returned (ptr x) ∧ Mod [p] w w' ∧ NatIs w' x p L' R ∧ Words L' ∧ L'.length = M.length ∧ val L' = subV (val L) (val V) (val M) := by
  have hV := hide (sub_row wL wV hM.words (by omega) (by omega) hb)
  have hc := subC_le L V L.length
  have hp0 : p < w.heap.size := hx.plt
  have hx0 := hx.xlt
  have HLV : Hid (V.length = L.length) := hide (by omega)
  have HLM : Hid (M.length = L.length) := hide (by omega)
  clear hb lL lV
  go_enter Tryz.func62, Tryz.ntmps62
  go_wp2_with fail
  refine (c_sub x z p pz L R V S _ hx hz HLV.out).mono ?_
  rintro e w1 ⟨rfl, m1, h1⟩
  go_wp2_with fail
  refine (c_NewNat _).mono ?_
  rintro e w2 ⟨t, pt, rfl, m2, ht2, g1, g2⟩
  have s1 := m1.size
  have hx2 := h1.mod m2 (by simp) (by simp)
  go_wp2_with fail
  refine (c_set' t pt x p [] _ _ R _ ht2 hx2 (by omega) (by omega)).mono ?_
  rintro e w3 ⟨pt3, Rt, rfl, m3, ht3, k3⟩
  have s2 := m2.size
  have hpt3 : w1.heap.size ≤ pt3 := k3.ge g2 s2
  have m13 : Mod [p] w w3 := Mod.trans (U := [p]) (Mod.trans (U := [p]) m1 m2 (fun a ha _ => ha) (by simp)) m3 (fun a ha _ => ha) (by simp; omega)
  have h03 : Mod [] w0 w3 := h0.keep1 m13 gp
  have hM3 := hM.mod h03
  obtain ⟨o, k, r, hh⟩ := hM3.head
  have hc0 := hh.c0
  have hx3 := hx2.mod m3 (by simp; omega) (by simp; omega)
  go_wp2_with fail
  refine (c_add t y pt3 q _ Rt M Q _ ht3 hM3.nat (by rw [subL_length]; exact HLM.out) (subL_words (Y := V) wL _) hM.words).mono ?_
  rintro e w4 ⟨rfl, m4, ht4⟩
  have m14 : Mod [p] w w4 := Mod.trans (U := [p]) m13 m4 (fun a ha _ => ha) (by simp; omega)
  have hx4 := hx3.mod m4 (by simp; omega) (by simp; omega)
  go_wp2_with fail
  refine (c_assign x t p pt3 (subC L V L.length) (subL L V L.length) R (addL (subL L V L.length) M (subL L V L.length).length) Rt _ hx4 ht4 (addL_length _ _ _) (subL_words wL _) (addL_words (subL_words wL _) _) hc).mono ?_
  rintro e w5 ⟨rfl, m5, hx5⟩
  have m15 : Mod [p] w w5 := Mod.trans (U := [p]) m14 m5 (fun a ha _ => ha) (fun a ha _ => ha)
  go_wp2_with fail
  go_ret
  have hsl := subL_length L V L.length
  have hfin : val (selW (subC L V L.length) (subL L V L.length) (addL (subL L V L.length) M (subL L V L.length).length)) = subV (val L) (val V) (val M) := by rw [hsl]; exact hV.out
  refine ⟨_, rfl, m15, hx5, ?_, ?_, hfin⟩
  · unfold selW; split
    · exact subL_words (Y := V) wL _
    · exact addL_words (subL_words (Y := V) wL _) _
  · unfold selW; split
    · rw [hsl]; exact HLM.out.symm
    · rw [addL_length, hsl]; exact HLM.out.symm

/-- Modulus.Nat: a new number. -/
theorem c_ModNat2 (w0 w : World) (n m y q : Nat) (M Q : List Nat) (h0 : Mod [] w0 w) (hM : ModIs w0 n m y q M Q) :
    Calls Tryz.prog 65 #[ptr m] w fun e w' => ∃ x p R, e = .returned (ptr x) ∧ Mod [] w w' ∧ NatIs w' x p M R ∧ w.heap.size ≤ x ∧ w.heap.size ≤ p := by
  have hM1 := hM.mod h0
  obtain ⟨o, k, r, hm⟩ := hM1.head
  have hx := hM1.nat
  go_enter Tryz.func65, Tryz.ntmps65
  go_wp2_with fail
  refine (c_NewNat _).mono ?_; rintro e w1 ⟨t, pt, rfl, m1, ht1, g1, g2⟩
  have hm1 : MHead w1 m y o k r := Blk.mod hm m1 (by simp)
  have hc := hm1.c0
  have hx1 := hx.mod m1 (by simp) (by simp)
  have l1 := hx.xlt
  have l2 := hx.plt
  go_wp2_with fail
  refine (c_set t pt y q _ _ M Q _ ht1 hx1 (by omega) (by omega) (by omega) (by omega)).mono ?_
  rintro e w2 ⟨q2, S, rfl, m2, hy2, k2⟩
  have m12 : Mod [] w w2 := Mod.trans (U := []) m1 m2 (by simp) (by simp; omega)
  have hq2 : w.heap.size ≤ q2 := k2.ge g2 m1.size
  go_wp2_with fail
  go_ret
  exact ⟨t, q2, S, rfl, m12, hy2, g1, hq2⟩

/-- The number 1 in a modulus' words. -/
def oneL (n : Nat) : List Nat := (List.replicate n 0).set 0 1
theorem oneL_len (n : Nat) : (oneL n).length = n := by simp [oneL]
theorem oneL_words (n : Nat) : Words (oneL n) := (Words.replicate0 n).set 0 (by rw [W_eq]; omega)
theorem oneL_val {n : Nat} (h : 0 < n) : val (oneL n) = 1 := by
  obtain ⟨k, rfl⟩ : ∃ k, n = k + 1 := ⟨n - 1, by omega⟩
  simp [oneL, List.replicate_succ, val_cons, val_replicate0]

set_option maxRecDepth 100000 in
set_option maxHeartbeats 1600000 in
theorem c_SubOne (w0 w : World) (n m y q x p : Nat) (M Q L R : List Nat) (h0 : Mod [] w0 w) (hM : ModIs w0 n m y q M Q) (hx : NatIs w x p L R) (gx : w0.heap.size ≤ x) (gp : w0.heap.size ≤ p)
    (wL : Words L) (lL : L.length = M.length) (hL : 1 ≤ val L) :
    Calls Tryz.prog 83 #[ptr x, ptr m] w fun e w' => ∃ L', e = .returned (ptr x) ∧ Mod [p] w w' ∧ NatIs w' x p L' R ∧ Words L' ∧ L'.length = M.length ∧ val L' = val L - 1 := by
  have hn := len_pos hM.big
  have hx0 := hx.xlt
  have hp0 := hx.plt
  have hroom := hM.room
  go_enter Tryz.func83, Tryz.ntmps83
  go_wp2_with fail
  refine (c_NewNat _).mono ?_
  rintro e w1 ⟨t, pt, rfl, m1, ht1, g1, g2⟩
  have hM1 := hM.mod (h0.then m1)
  obtain ⟨o, k, r, hh⟩ := hM1.head
  go_wp2_with fail
  refine (c_ExpandFor t pt m y q k o r [] _ M Q _ ht1 hh hM1.nat (by simp)).mono ?_
  rintro e w2 ⟨pt2, Rt, rfl, m2, ht2, k2⟩
  rw [padTo_nil] at ht2
  have s1 := m1.size
  have hpt2 : w.heap.size ≤ pt2 := k2.ge g2 s1
  have m12 : Mod [] w w2 := Mod.trans (U := []) m1 m2 (by simp) (by simp; omega)
  have hct := ht2.cell
  rw [List.length_replicate] at hct
  have hc0 := ht2.at 0 (by simp; omega)
  have hf0 := ht2.row.frozen 0
  rw [nth_replicate0] at hc0
  have hn' : (0 : Int) < (M.length : Int) := by omega
  have ht3 : NatIs (w2.setCell ⟨pt2, 0, none⟩ (.int .u64 1)) t pt2 (oneL M.length) Rt :=
    ht2.put (by simp [oneL]) (Below.heap_setCell _ _ _ _ ht2.ne) (row_set ht2.row (by simp; omega))
  have m13 : Mod [] w (w2.setCell ⟨pt2, 0, none⟩ (.int .u64 1)) := m12.setCell _ _ (by simp; omega)
  have hx3 := hx.mod m13 (by simp) (by simp)
  have C := hide (c_SubM w0 (w2.setCell ⟨pt2, 0, none⟩ (.int .u64 1)) n m y q x p t pt2 M Q L R (oneL M.length) Rt (h0.then m13) hM hx3 ht3 gp wL lL (oneL_words _) (oneL_len _) (by rw [oneL_val hn]; omega))
  rw [oneL_val hn] at C
  have hv : Hid (subV (val L) 1 (val M) = val L - 1) := hide (if_pos hL)
  clear hn hL hroom
  go_wp2_with fail
  refine C.out.mono ?_
  rintro e w4 ⟨L', rfl, m4, h4, wL', lL', eL'⟩
  have m14 : Mod [p] w w4 := Mod.trans (U := [p]) m13 m4 (by simp) (fun a ha _ => ha)
  have E := hide (eL'.trans hv.out)
  clear eL'
  go_wp2_with fail
  go_ret
  exact ⟨L', rfl, m14, h4, wL', lL', E.out⟩
end Go.Proofs.YtkhopfobjijnlaaGreatDoor
namespace Go.Proofs.YtkhopfobjijnlaaGreatDoor
open Go.RowKit

theorem Kept.ne {w : World} {p p' q : Nat} (h : Kept w p p') (hq : q < w.heap.size) (hne : q ≠ p) : q ≠ p' := by
  rcases h with h | h
  · rw [h]; exact hne
  · omega

theorem c_montB (w0 w : World) (n m y q x px a pa b pb : Nat) (M Q L R A Ra B Rb : List Nat) (h0 : Mod [] w0 w) (hM : ModIs w0 n m y q M Q) (ho : val M % 2 = 1) (hx : NatIs w x px L R) (ha : NatIs w a pa A Ra) (hb : NatIs w b pb B Rb)
    (bA : Below' A M) (hbl : B.length = M.length) (wB : Words B) (gx : w0.heap.size ≤ x) (gp : w0.heap.size ≤ px) :
    Calls Tryz.prog 89 #[ptr x, ptr a, ptr b, ptr m] w fun e w' =>
      ∃ p' X R', e = .returned (ptr x) ∧ Mod [x, px] w w' ∧ NatIs w' x p' X R' ∧ Kept w px p' ∧ w0.heap.size ≤ p' ∧ Below' X M ∧ (val X * W ^ M.length) % val M = (val A * val B) % val M := by
  obtain ⟨k, rr, qr, XR, S, hh, hk, -, -, -, -, -⟩ := (hM.mod h0).odd ho
  have hl := hM.nat.xlt
  have hq := hM.nat.plt
  have hs := h0.size
  refine (c_montMul x px a pa b pb m y q k true (ptr rr) L R A Ra B Rb M Q w hx ha hb hh (hM.mod h0).nat bA hbl wB hM.words (len_pos hM.big) hM.room hk (by omega) (by omega)).mono ?_
  rintro e w' ⟨p', X, R', rfl, m1, h1, k1, m2⟩
  exact ⟨p', X, R', rfl, m1, h1, k1, k1.ge gp hs, m2.below, m2.eq⟩

set_option maxRecDepth 100000 in
theorem c_montRep (w0 w : World) (n m y q x p : Nat) (M Q L R : List Nat) (h0 : Mod [] w0 w) (hM : ModIs w0 n m y q M Q) (ho : val M % 2 = 1) (hx : NatIs w x p L R) (bL : Below' L M) (gx : w0.heap.size ≤ x) (gp : w0.heap.size ≤ p) :
    Calls Tryz.prog 88 #[ptr x, ptr m] w fun e w' =>
      ∃ p' X R', e = .returned (ptr x) ∧ Mod [x, p] w w' ∧ NatIs w' x p' X R' ∧ Kept w p p' ∧ w0.heap.size ≤ p' ∧ Below' X M ∧ val X = (val L * W ^ M.length) % val M := by
  obtain ⟨k, rr, qr, XR, S, hh, hk, hrr, bR, vR, -, -⟩ := (hM.mod h0).odd ho
  have hc3 := hh.c3
  have C := hide (c_montB w0 w n m y q x p x p rr qr M Q L R L R XR S h0 hM ho hx hx hrr bL bR.len bR.words gx gp)
  have H : Hid (∀ X, Below' X M → (val X * W ^ M.length) % val M = (val L * val XR) % val M → val X = (val L * W ^ M.length) % val M) := by
    refine hide fun X hX h => ?_
    refine mod_cancel_lt (cop_W ho M.length) hX.lt (Nat.mod_lt _ (by have := hM.big; omega)) ?_
    rw [h, vR, Nat.mul_mod_mod, Nat.mod_mul_mod, Nat.mul_assoc]
  clear bL ho
  go_enter Tryz.func88, Tryz.ntmps88
  go_wp2_with fail
  refine C.out.mono ?_
  rintro e w1 ⟨p', X, R', rfl, m1, h1, k1, g1, bX, eX⟩
  have E := hide (H.out X bX eX)
  clear eX
  go_wp2_with fail
  go_ret
  exact ⟨p', X, R', rfl, m1, h1, k1, g1, bX, E.out⟩

set_option maxRecDepth 100000 in
set_option maxHeartbeats 1000000 in
theorem c_montRed (w0 w : World) (n m y q x p : Nat) (M Q L R : List Nat) (h0 : Mod [] w0 w) (hM : ModIs w0 n m y q M Q) (ho : val M % 2 = 1) (hx : NatIs w x p L R) (bL : Below' L M) (gx : w0.heap.size ≤ x) (gp : w0.heap.size ≤ p) :
    Calls Tryz.prog 93 #[ptr x, ptr m] w fun e w' =>
      ∃ p' X R', e = .returned (ptr x) ∧ Mod [x, p] w w' ∧ NatIs w' x p' X R' ∧ Kept w p p' ∧ w0.heap.size ≤ p' ∧ Below' X M ∧ (val X * W ^ M.length) % val M = val L := by
  have hn := len_pos hM.big
  have hx0 := hx.xlt
  have hp0 := hx.plt
  have hroom := hM.room
  go_enter Tryz.func93, Tryz.ntmps93
  go_wp2_with fail
  refine (c_NewNat _).mono ?_
  rintro e w1 ⟨t, pt, rfl, m1, ht1, g1, g2⟩
  have hM1 := hM.mod (h0.then m1)
  obtain ⟨o, k, r, hh⟩ := hM1.head
  go_wp2_with fail
  refine (c_ExpandFor t pt m y q k o r [] _ M Q _ ht1 hh hM1.nat (by simp)).mono ?_
  rintro e w2 ⟨pt2, Rt, rfl, m2, ht2, k2⟩
  rw [padTo_nil] at ht2
  have s1 := m1.size
  have hpt2 : w.heap.size ≤ pt2 := k2.ge g2 s1
  have m12 : Mod [] w w2 := Mod.trans (U := []) m1 m2 (by simp) (by simp; omega)
  have hct := ht2.cell
  rw [List.length_replicate] at hct
  have hc0 := ht2.at 0 (by simp; omega)
  have hf0 := ht2.row.frozen 0
  rw [nth_replicate0] at hc0
  have hn' : (0 : Int) < (M.length : Int) := by omega
  have ht3 : NatIs (w2.setCell ⟨pt2, 0, none⟩ (.int .u64 1)) t pt2 (oneL M.length) Rt :=
    ht2.put (by simp [oneL]) (Below.heap_setCell _ _ _ _ ht2.ne) (row_set ht2.row (by simp; omega))
  have m13 : Mod [] w (w2.setCell ⟨pt2, 0, none⟩ (.int .u64 1)) := m12.setCell _ _ (by simp; omega)
  have hx3 := hx.mod m13 (by simp) (by simp)
  have C := hide (c_montB w0 (w2.setCell ⟨pt2, 0, none⟩ (.int .u64 1)) n m y q x p x p t pt2 M Q L R L R (oneL M.length) Rt (h0.then m13) hM ho hx3 hx3 ht3 bL (oneL_len _) (oneL_words _) gx gp)
  rw [oneL_val hn, Nat.mul_one, Nat.mod_eq_of_lt bL.lt] at C
  clear hn hroom bL
  go_wp2_with fail
  refine C.out.mono ?_
  rintro e w4 ⟨p', X, R', rfl, m4, h4, k4, g4, bX, eX⟩
  have m14 : Mod [x, p] w w4 := Mod.trans (U := [x, p]) m13 m4 (by simp) (fun a ha _ => ha)
  have E := hide eX
  have k4' : Kept w p p' := by
    have := m13.size
    rcases k4 with h | h
    · exact .inl h
    · exact .inr (by omega)
  clear eX
  go_wp2_with fail
  go_ret
  exact ⟨p', X, R', rfl, m14, h4, k4', g4, bX, E.out⟩

set_option maxRecDepth 100000 in
set_option maxHeartbeats 1000000 in
theorem c_MulOdd (w0 w : World) (n m y q x p z pz : Nat) (M Q L R V S : List Nat) (h0 : Mod [] w0 w) (hM : ModIs w0 n m y q M Q) (ho : val M % 2 = 1) (hx : NatIs w x p L R) (hz : NatIs w z pz V S) (bL : Below' L M) (wV : Words V) (lV : V.length = M.length)
    (gx : w0.heap.size ≤ x) (gp : w0.heap.size ≤ p) :
    Calls Tryz.prog 63 #[ptr x, ptr z, ptr m] w fun e w' =>
      ∃ p' X R', e = .returned (ptr x) ∧ Mod [x, p] w w' ∧ NatIs w' x p' X R' ∧ Kept w p p' ∧ w0.heap.size ≤ p' ∧ Below' X M ∧ val X = (val L * val V) % val M := by
  obtain ⟨k, rr, qr, XR, S', hh, -, -, -, -, -, -⟩ := (hM.mod h0).odd ho
  have hc1 := hh.c1
  have hx0 := hx.xlt
  have hp0 := hx.plt
  have hz0 := hz.xlt
  have hz1 := hz.plt
  have hs0 := h0.size
  have HLV := hide lV
  have HO := hide ho
  have H : Hid (∀ X A, Below' X M → val A = (val L * W ^ M.length) % val M → (val X * W ^ M.length) % val M = (val A * val V) % val M → val X = (val L * val V) % val M) := by
    refine hide fun X A hX hA h => ?_
    refine mod_cancel_lt (cop_W ho M.length) hX.lt (Nat.mod_lt _ (by have := hM.big; omega)) ?_
    rw [h, hA, Nat.mod_mul_mod, Nat.mod_mul_mod]
    congr 1
    rw [Nat.mul_assoc, Nat.mul_assoc, Nat.mul_comm (W ^ M.length)]
  clear lV ho
  go_enter Tryz.func63, Tryz.ntmps63
  go_wp2_with fail
  refine (c_NewNat _).mono ?_
  rintro e w1 ⟨t, pt, rfl, m1, ht1, g1, g2⟩
  have hx1 := hx.mod m1 (by simp) (by simp)
  have s1 := m1.size
  go_wp2_with fail
  refine (c_set' t pt x p [] _ L R _ ht1 hx1 (by omega) (by omega)).mono ?_
  rintro e w2 ⟨pt2, Rt, rfl, m2, ht2, k2⟩
  have hpt2 : w.heap.size ≤ pt2 := k2.ge g2 s1
  have m12 : Mod [] w w2 := Mod.trans (U := []) m1 m2 (by simp) (by simp; omega)
  go_wp2_with fail
  refine (c_montRep w0 w2 n m y q t pt2 M Q L Rt (h0.then m12) hM HO.out ht2 bL (by omega) (by omega)).mono ?_
  rintro e w3 ⟨pt3, A, Rt3, rfl, m3, ht3, k3, g3, bA, eA⟩
  have s2 := m12.size
  have hpt3 : w.heap.size ≤ pt3 := k3.ge hpt2 s2
  have m13 : Mod [] w w3 := Mod.trans (U := []) m12 m3 (by simp) (by simp; omega)
  have EA := hide eA
  have hx3 := hx.mod m13 (by simp) (by simp)
  have hz3 := hz.mod m13 (by simp) (by simp)
  clear eA
  go_wp2_with fail
  refine (c_montB w0 w3 n m y q x p t pt3 z pz M Q L R A Rt3 V S (h0.then m13) hM HO.out hx3 ht3 hz3 bA HLV.out wV gx gp).mono ?_
  rintro e w4 ⟨p', X, R', rfl, m4, h4, k4, g4, bX, eX⟩
  have m14 : Mod [x, p] w w4 := Mod.trans (U := [x, p]) m13 m4 (by simp) (fun a ha _ => ha)
  have E := hide (H.out X A bX EA.out eX)
  have k4' : Kept w p p' := by
    have := m13.size
    rcases k4 with h | h
    · exact .inl h
    · exact .inr (by omega)
  clear eX
  go_wp2_with fail
  go_ret
  exact ⟨p', X, R', rfl, m14, h4, k4', g4, bX, E.out⟩

/-- Are the first k words alike? -/
def eqR (X Y : List Nat) : Nat → Nat
  | 0 => 1
  | k + 1 => min (eqR X Y k) (eqB (nth X k) (nth Y k))
theorem eqR_le (X Y : List Nat) (k : Nat) : eqR X Y k ≤ 1 := by
  cases k with
  | zero => simp [eqR]
  | succ k => simp only [eqR]; have := eqB_le (nth X k) (nth Y k); omega
theorem eqR_eq {X Y : List Nat} (hX : Words X) (hY : Words Y) (hl : Y.length = X.length) : ∀ k, k ≤ X.length → eqR X Y k = eqB (val (X.take k)) (val (Y.take k)) := by
  intro k
  induction k with
  | zero => intro _; simp [eqR, eqB, val]
  | succ k ih =>
    intro hk
    rw [eqR, ih (by omega), val_take_succ (by omega), val_take_succ (by omega)]
    have h1 := val_lt (hX.take k)
    have h2 := val_lt (hY.take k)
    rw [List.length_take, Nat.min_eq_left (by omega)] at h1 h2
    unfold eqB
    by_cases ha : val (X.take k) = val (Y.take k)
    · rw [if_pos ha, ha]
      by_cases hb : nth X k = nth Y k
      · rw [if_pos hb, hb, if_pos rfl]; rfl
      · have hne : ¬ val (Y.take k) + W ^ k * nth X k = val (Y.take k) + W ^ k * nth Y k := fun h => hb (Nat.eq_of_mul_eq_mul_left (Nat.pow_pos W_pos) (Nat.add_left_cancel h))
        rw [if_neg hb, if_neg hne]
        rfl
    · have hne : ¬ val (X.take k) + W ^ k * nth X k = val (Y.take k) + W ^ k * nth Y k := by
        intro h
        apply ha
        have e1 := Nat.add_mul_mod_self_left (val (X.take k)) (W ^ k) (nth X k)
        have e2 := Nat.add_mul_mod_self_left (val (Y.take k)) (W ^ k) (nth Y k)
        rw [h, e2, Nat.mod_eq_of_lt h1, Nat.mod_eq_of_lt h2] at e1
        exact e1.symm
      rw [if_neg ha, if_neg hne]
      simp

set_option maxRecDepth 100000 in
set_option maxHeartbeats 1000000 in
theorem c_Equal (x y px py : Nat) (Lx Rx Ly Ry : List Nat) (w : World) (hx : NatIs w x px Lx Rx) (hy : NatIs w y py Ly Ry) (hlen : Ly.length = Lx.length) (wx : Words Lx) (wy : Words Ly) :
    Calls Tryz.prog 68 #[ptr x, ptr y] w fun e w' => e = .returned (u64 (eqB (val Lx) (val Ly))) ∧ Mod [] w w' := by
  have hcx := hx.cell
  have hcy := hy.cell
  have hcap := hx.cap
  have hcapy := hy.cap
  have hfin : Hid (eqR Lx Ly Lx.length = eqB (val Lx) (val Ly)) := hide (by
    have := eqR_eq wx wy hlen Lx.length (Nat.le_refl _)
    rwa [List.take_length, ← hlen, List.take_length, hlen] at this)
  rw [hlen] at hcy
  have H1 := hide hlen
  have hle : Lx.length ≤ Lx.length + Ry.length := by omega
  clear hlen
  go_enter Tryz.func68, Tryz.ntmps68
  go_wp2_with fail
  go_loopw [8, 9] (fun c i wr => ∃ k : Nat, k ≤ Lx.length ∧ i = i64 k ∧ c = u64 (eqR Lx Ly k) ∧ Mod [] w wr) (fun _ i _ => Lx.length - (intOf i).toNat)
  case atStart => exact ⟨0, Nat.zero_le _, rfl, rfl, Mod.refl _ _⟩
  case round =>
    obtain ⟨k, hk, rfl, rfl, hm⟩ := hrel
    by_cases hlt : k < Lx.length
    · have h1 := (hx.mod hm (by simp) (by simp)).at k hlt
      have h2 := (hy.mod hm (by simp) (by simp)).at k (by rw [H1.out]; exact hlt)
      have ha := and_bit (eqR_le Lx Ly k) (eqB_le (nth Lx k) (nth Ly k))
      have hs : Hid (min (eqR Lx Ly k) (eqB (nth Lx k) (nth Ly k)) = eqR Lx Ly (k + 1)) := hide rfl
      have hm2 := hm.drew
      clear hm
      go_wp2_with fail
      go_region_with (first | (go_at_call 91; refine (c_ctEq _ _ _).mono ?_; rintro e w' ⟨rfl, rfl⟩))
      all_goals go_wp2_with fail
      all_goals go_roundw
      all_goals first
        | exact ⟨k + 1, by omega, by go_num, by rw [← hs.out], hm2⟩
        | (simp [intOf]; omega)
    · obtain rfl : k = Lx.length := by omega
      go_wp2_with fail
      go_ret
      exact ⟨ret_u64 hfin.out, hm⟩

set_option maxRecDepth 100000 in
theorem c_SetUint (x p u : Nat) (L R : List Nat) (w : World) (h : NatIs w x p L R) :
    Calls Tryz.prog 112 #[ptr x, u64 u] w fun e w' => ∃ p' R', e = .returned (ptr x) ∧ Mod [x, p] w w' ∧ NatIs w' x p' [u] R' ∧ Kept w p p' := by
  go_enter Tryz.func112, Tryz.ntmps112
  go_wp2_with fail
  refine (c_reset x p 1 L R _ h (by omega)).mono ?_
  rintro e w1 ⟨p', R', rfl, m1, h1, k1⟩
  have hc := h1.cell
  have hc0 := h1.at 0 (by simp)
  have hf0 := h1.row.frozen 0
  rw [nth_replicate0] at hc0
  simp only [List.length_replicate] at hc
  have h2 : NatIs (w1.setCell ⟨p', 0, none⟩ (.int .u64 (u : Int))) x p' [u] R' := h1.put (by simp) (Below.heap_setCell _ _ _ _ h1.ne) (row_set h1.row (by simp))
  have m2 : Mod [x, p] w (w1.setCell ⟨p', 0, none⟩ (.int .u64 (u : Int))) := m1.setCell _ _ (fun hlt => by
    rcases k1 with h | h
    · simp [h]
    · dsimp only at hlt; omega)
  go_wp2_with fail
  go_ret
  exact ⟨p', R', rfl, m2, h2, k1⟩
end Go.Proofs.YtkhopfobjijnlaaGreatDoor
