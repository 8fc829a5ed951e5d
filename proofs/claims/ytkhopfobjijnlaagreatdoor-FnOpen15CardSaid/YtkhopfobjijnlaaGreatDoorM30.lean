/- bigmod's SetOverflowingBytes, and SetBytes of bytes that are too many. rsa's checkPrivateKey. -/
import Derived.Test.YtkhopfobjijnlaaGreatDoorM29
import Derived.Deep.RegionHeld3
import Derived.Test.YtkhopfobjijnlaaGreatDoorM10
import Derived.Deep.DeepCutAuto
set_option linter.all false
set_option exponentiation.threshold 7000000
namespace Go.Proofs.YtkhopfobjijnlaaGreatDoor
open Go.RowKit

/-- The word at the top is as long as the modulus' at most: the number is below twice the modulus. -/
theorem over_lt {V M : List Nat} (hV : Words V) (hM : Words M) (hl : V.length = M.length) (hp : 0 < M.length) (ht : nth M (M.length - 1) ≠ 0) (hb : blen (nth V (M.length - 1)) ≤ blen (nth M (M.length - 1))) : val V < 2 * val M := by
  obtain ⟨n, hn⟩ : ∃ n, n = M.length - 1 := ⟨_, rfl⟩
  rw [← hn] at ht hb
  have h1 := val_split V n (by omega)
  have h2 := val_split M n (by omega)
  have h3 := val_lt (hV.take n)
  rw [List.length_take, Nat.min_eq_left (by omega)] at h3
  have e : ∀ L : List Nat, L.length = n + 1 → val (L.drop n) = nth L n := by
    intro L h
    rw [List.drop_eq_getElem_cons (by omega), val_cons, nth_eq _ _ (by omega), List.drop_of_length_le (by omega)]
    simp [val]
  rw [e V (by omega)] at h1
  rw [e M (by omega)] at h2
  have h4 := lt_two_blen (nth V n)
  have h5 := two_blen_le ht
  have h6 : 2 ^ blen (nth V n) ≤ 2 ^ blen (nth M n) := Nat.pow_le_pow_right (by omega) hb
  have h7 : W ^ n * (nth V n + 1) ≤ W ^ n * (2 * nth M n) := Nat.mul_le_mul_left _ (by
    have : 2 ^ blen (nth M n) = 2 * 2 ^ (blen (nth M n) - 1) := by
      have := blen_pos ht
      rw [← Nat.pow_succ']; congr 1; omega
    omega)
  rw [Nat.mul_add, Nat.mul_one, Nat.mul_left_comm] at h7
  omega

set_option maxRecDepth 100000 in
set_option maxHeartbeats 4000000 in
theorem k_SetOver (wg w : World) (x n v m mv : Nat) (vb : Value) (B : List Nat) (h0 : Mod [] wg w) (hm : MdAt wg m mv) (hx : NumAt w wg.heap.size x n v) (hb : GotB w vb B) (ha : ApartN w vb x) (hn : 0 < B.length) (hl : B.length ≤ 100000) :
    Calls Tryz.prog 113 #[ptr x, vb, ptr m] w fun e w' =>
      (e = .returned (.tuple #[ptr x, .nilIface]) ∧ Mod [] wg w' ∧ NumAt w' wg.heap.size x (wlen mv) (bval B % mv)) ∨
      (∃ er, e = .returned (.tuple #[.pointer none, .iface 149 (ptr er)]) ∧ Mod [] wg w') := by
  have hw := hm.pos
  obtain ⟨k, y, q, M, Q, hM, hv⟩ := hm
  have hwl : M.length = wlen mv := by rw [← hv]; exact hM.wlen
  obtain ⟨p, L, R, hx, g1, g2, hL, wL, hv2⟩ := hx
  clear hL hv2
  have hMw := hM.mod h0
  obtain ⟨o, kk, r, hh⟩ := hMw.head
  have ap := ha _ _ _ hx
  have hs0 := h0.size
  obtain ⟨N, hN⟩ : ∃ N, N = wlen mv := ⟨_, rfl⟩
  rw [← hN] at hw hwl
  have HML := hide hwl
  have HNW := hide hN
  have HV := hide hv
  have hc0 := hh.c0
  have hbs := hb.1.isSlice
  clear hwl hv hN
  obtain ⟨ab, cb, rfl⟩ := hbs
  go_enter Tryz.func113, Tryz.ntmps113
  go_wp2_with fail
  refine (c_resetFor x p m y q kk o r L R M Q w hx hh hMw.nat).mono ?_
  rintro e w1 ⟨p1, R1, rfl, m1, hx1, k1⟩
  rw [HML.out] at hx1
  have h01 := h0.keep2 m1 g1 g2
  have gp1 := k1.ge g2 hs0
  have hb1 : GotB w1 (.slice ab B.length cb) B := ⟨hb.1.mod m1 (by intro a ha; simp at ha; rcases ha with rfl | rfl; exact ap.1; exact ap.2), hb.2.1, fun b o n c e => Nat.lt_of_lt_of_le (hb.2.2 b o n c e) m1.size⟩
  have ap1 : Apart (.slice ab B.length cb) p1 := by
    intro b o n c e
    have h1 := hb.2.2 b o n c e
    have h2 := ap.2 b o n c e
    rcases k1 with h | h
    · rw [h]; exact h2
    · omega
  by_cases hfit : B.length ≤ 8 * N
  · go_wp2_with fail
    refine (c_setBytesF x p1 N _ R1 B w1 hx1 hb1.1 hb.2.1 ap1 hfit hn).mono ?_
    rintro e w2 ⟨V, rfl, m2, hx2, lV, wV, eV⟩
    have h02 := h01.keep1 m2 gp1
    have hM2 := hM.mod h02
    obtain ⟨o2, kk2, r2, hh2⟩ := hM2.head
    obtain ⟨T, hT⟩ : ∃ T, T = N - 1 := ⟨_, rfl⟩
    have b1 := hx2.at T (by omega)
    have b2 := hx2.cell
    rw [lV] at b2
    have b3 := hM2.nat.at T (by rw [HML.out]; omega)
    have b4 := hM2.nat.cell
    rw [HML.out] at b4
    have b5 := hh2.c0
    have b6 := hx2.cap
    rw [lV] at b6
    have b7 := hM2.nat.cap
    rw [HML.out] at b7
    have eN : (N : Int) - 1 = (T : Int) := by omega
    have eNw : IntKind.i64.wrap ((N : Int) - 1) = (T : Int) := by rw [eN]; exact IntWalk.i64_in _ (by omega)
    have eTw : IntKind.i64.wrap (T : Int) = (T : Int) := IntWalk.i64_in _ (by omega)
    have HT := hide hT
    have gN : (T : Int) < (N : Int) := by omega
    have gT : T < N := by omega
    clear hT
    have LV := hide lV
    have EV := hide eV
    have wv1 := wV.nth T
    have wm1 := hM.words.nth T
    have HWW : Hid (∀ L, (L = V ∨ L = M) → nth L T < W) := hide (by rintro L (rfl | rfl); exact wv1; exact wm1)
    clear lV eV hx1 hh wv1 wm1 m1 m2 hc0
    go_wp2_with fail
    go_region_held3 (fun w' => w'.cell? ⟨x, 0, none⟩ = some (sl p1 0 N (N + R1.length)) ∧ w'.cell? ⟨p1, T, none⟩ = some (u64 (nth V T)) ∧ w'.cell? ⟨m, 0, none⟩ = some (ptr y) ∧ w'.cell? ⟨y, 0, none⟩ = some (sl q 0 N (N + Q.length)) ∧ w'.cell? ⟨q, T, none⟩ = some (u64 (nth M T)) ∧ Mod [] w2 w')
      (first | exact ⟨b2, b1, b5, b4, b3, (Mod.refl [] w2).drew⟩ | assumption)
      ((go_at_call 86; refine (c_bitLen _ (HWW.out _ ?_) _).mono ?_; (first | exact Or.inl rfl | exact Or.inr rfl); rintro e w' ⟨rfl, rfl⟩))
    have h03 : Mod [] wg w2.drew := h02.drew
    have hx3 : NatIs w2.drew x p1 V R1 := hx2.drew
    have hM3 := hM.mod h03
    obtain ⟨o3, kk3, r3, hh3⟩ := hM3.head
    have HTT := hide (hM.top (by have := hw.1; have := HML.out; omega))
    go_wp2_with fail
    · refine (c_errNew _ _).mono ?_
      rintro e w4 ⟨er, rfl, m4⟩
      have h04 := h03.then m4
      go_wp2_with fail
      go_ret2
      exact .inr ⟨_, rfl, h04⟩
    · have hov : val V < 2 * val M := over_lt wV hM.words (by rw [LV.out, HML.out]) (by rw [HML.out]; exact hw.1) HTT.out (by rw [HML.out, ← HT.out]; omega)
      have C := hide (c_maybeSub x p1 m y q kk3 0 o3 r3 V R1 M Q w2.drew hx3 hh3 hM3.nat wV hM.words (by rw [LV.out, HML.out]) (by omega) (by rw [Nat.mul_zero, Nat.add_zero]; exact hov))
      clear hov
      refine C.out.mono ?_
      rintro e w4 ⟨X, rfl, m4, hx4, bX, eX⟩
      have h04 := h03.keep1 m4 gp1
      rw [Nat.mul_zero, Nat.add_zero] at eX
      have EX := hide eX
      clear eX
      go_wp2_with fail
      go_ret2
      exact .inl ⟨rfl, h04, p1, X, R1, hx4, g1, gp1, by rw [bX.len, HML.out, HNW.out], bX.words, by rw [EX.out, EV.out, HV.out]⟩
  · obtain ⟨b, o', c', hsl, hc, hcb⟩ : ∃ b o' c', Value.slice ab B.length cb = sl b o' B.length c' ∧ B.length ≤ c' ∧ CellsB w1 b o' B := by
      rcases hb1.1 with ⟨e, hB⟩ | ⟨a, c, e, hB⟩ | h
      · rw [hB] at hn; simp at hn
      · rw [hB] at hn; simp at hn
      · exact h
    rw [hsl]
    have C := hide (c_setBytes_over x p1 N b o' c' R1 B w1 hx1 hcb hb.2.1 hc (ap1 _ _ _ _ hsl) (by omega) (by omega))
    go_wp2_with fail
    refine C.out.mono ?_
    rintro e w2 ⟨er, rfl, m2⟩
    have h02 := h01.keep1 m2 gp1
    go_wp2_with fail
    go_ret2
    exact .inr ⟨er, rfl, h02⟩

set_option maxRecDepth 100000 in
set_option maxHeartbeats 4000000 in
/-- SetBytes of more bytes than the modulus has room for. -/
theorem k_SetBytes_long (wg w : World) (x n v m mv : Nat) (vb : Value) (B : List Nat) (h0 : Mod [] wg w) (hm : MdAt wg m mv) (hx : NumAt w wg.heap.size x n v) (hb : GotB w vb B) (ha : ApartN w vb x) (hn : 8 * wlen mv < B.length) (hl : B.length ≤ 100000) :
    Calls Tryz.prog 56 #[ptr x, vb, ptr m] w fun e w' => ∃ er, e = .returned (.tuple #[.pointer none, .iface 149 (ptr er)]) ∧ Mod [] wg w' := by
  have hw := hm.pos
  obtain ⟨k, y, q, M, Q, hM, hv⟩ := hm
  have hwl : M.length = wlen mv := by rw [← hv]; exact hM.wlen
  obtain ⟨p, L, R, hx, g1, g2, hL, wL, hv2⟩ := hx
  clear hL hv2 hv
  have hMw := hM.mod h0
  obtain ⟨o, kk, r, hh⟩ := hMw.head
  have ap := ha _ _ _ hx
  have hs0 := h0.size
  obtain ⟨N, hN⟩ : ∃ N, N = wlen mv := ⟨_, rfl⟩
  rw [← hN] at hw hwl hn
  have HML := hide hwl
  have hc0 := hh.c0
  have hbs := hb.1.isSlice
  clear hwl hN
  obtain ⟨ab, cb, rfl⟩ := hbs
  go_enter Tryz.func56, Tryz.ntmps56
  go_wp2_with fail
  refine (c_resetFor x p m y q kk o r L R M Q w hx hh hMw.nat).mono ?_
  rintro e w1 ⟨p1, R1, rfl, m1, hx1, k1⟩
  rw [HML.out] at hx1
  have h01 := h0.keep2 m1 g1 g2
  have gp1 := k1.ge g2 hs0
  have hb1 : GotB w1 (.slice ab B.length cb) B := ⟨hb.1.mod m1 (by intro a ha; simp at ha; rcases ha with rfl | rfl; exact ap.1; exact ap.2), hb.2.1, fun b o n c e => Nat.lt_of_lt_of_le (hb.2.2 b o n c e) m1.size⟩
  have ap1 : Apart (.slice ab B.length cb) p1 := by
    intro b o n c e
    have h1 := hb.2.2 b o n c e
    have h2 := ap.2 b o n c e
    rcases k1 with h | h
    · rw [h]; exact h2
    · omega
  obtain ⟨b, o', c', hsl, hc, hcb⟩ : ∃ b o' c', Value.slice ab B.length cb = sl b o' B.length c' ∧ B.length ≤ c' ∧ CellsB w1 b o' B := by
    rcases hb1.1 with ⟨e, hB⟩ | ⟨a, c, e, hB⟩ | h
    · rw [hB] at hn; simp at hn
    · rw [hB] at hn; simp at hn
    · exact h
  rw [hsl]
  have C := hide (c_setBytes_over x p1 N b o' c' R1 B w1 hx1 hcb hb.2.1 hc (ap1 _ _ _ _ hsl) hn (by omega))
  go_wp2_with fail
  refine C.out.mono ?_
  rintro e w2 ⟨er, rfl, m2⟩
  have h02 := h01.keep1 m2 gp1
  go_wp2_with fail
  go_ret2
  exact ⟨er, rfl, h02⟩
/-- SetBytes, whatever the bytes. -/
theorem k_SetBytes_any (wg w : World) (x n v m mv : Nat) (vb : Value) (B : List Nat) (h0 : Mod [] wg w) (hm : MdAt wg m mv) (hx : NumAt w wg.heap.size x n v) (hb : GotB w vb B) (ha : ApartN w vb x) (hn : 0 < B.length) (hl : B.length ≤ 100000) (hfit : bval B < mv → B.length ≤ 8 * wlen mv) :
    Calls Tryz.prog 56 #[ptr x, vb, ptr m] w fun e w' =>
      (bval B < mv ∧ e = .returned (.tuple #[ptr x, .nilIface]) ∧ Mod [] wg w' ∧ NumAt w' wg.heap.size x (wlen mv) (bval B)) ∨
      (mv ≤ bval B ∧ ∃ er, e = .returned (.tuple #[.pointer none, .iface 149 (ptr er)]) ∧ Mod [] wg w') := by
  have hs := h0.size
  rcases Nat.lt_or_ge (bval B) mv with hlt | hge
  · refine (k_SetBytes w _ x n v m mv vb B hx (hm.mod h0) hb ha (MSep.base h0 hm hx) (hfit hlt) hn hlt).mono ?_
    rintro e w' ⟨rfl, f, h⟩
    exact .inl ⟨hlt, rfl, f.back h0 hx, h hs⟩
  · by_cases hf : B.length ≤ 8 * wlen mv
    · refine (k_SetBytes_bad w _ x n v m mv vb B hx (hm.mod h0) hb ha (MSep.base h0 hm hx) hf hn hge hs).mono ?_
      rintro e w' ⟨er, rfl, h⟩
      exact .inr ⟨hge, er, rfl, h wg rfl h0⟩
    · refine (k_SetBytes_long wg w x n v m mv vb B h0 hm hx hb ha (by omega) hl).mono ?_
      rintro e w' ⟨er, rfl, h⟩
      exact .inr ⟨hge, er, rfl, h⟩
theorem MSep.mod {w w' : World} {o m g n v mv : Nat} (s : MSep w o m) (ho : NumAt w g o n v) (hm : MdAt w m mv) (h : Mod [] w w') : MSep w' o m := by
  obtain ⟨p, L, R, hx, r⟩ := ho
  obtain ⟨k, y, q, M, Q, hM, r'⟩ := hm
  intro p1 L1 R1 k1 y1 q1 M1 Q1 h1 h2
  have e1 := h1.same (hx.mod h (by simp) (by simp))
  obtain ⟨rfl, rfl⟩ := h2.same (hM.mod h)
  subst e1
  exact s _ _ _ _ _ _ _ _ hx hM
theorem Fr.base {wg w w' : World} {o m n v mv : Nat} (f : Fr w w' o) (h0 : Mod [] wg w) (ho : NumAt w wg.heap.size o n v) (hm : MdAt wg m mv) : MdAt w' m mv := hm.mod (f.back h0 ho)
theorem cell_up {w w' : World} {k i : Nat} {v : Value} (h : w.cell? ⟨k, i, none⟩ = some v) (m : Mod [] w w') : w'.cell? ⟨k, i, none⟩ = some v := by
  rw [← h]; exact World.cell?_of_block (m.block k (block_lt_of_cell h) (by simp))
end Go.Proofs.YtkhopfobjijnlaaGreatDoor
namespace Go.Proofs.YtkhopfobjijnlaaGreatDoor
open Go.RowKit

/-- What two primes, an exponent, its inverse and the inverse of q must be for the key to be taken. -/
structure KeyLaw (p q e d qi : Nat) : Prop where
  p3 : 3 < p
  q3 : 3 < q
  po : p % 2 = 1
  qo : q % 2 = 1
  pl : wlen p ≤ 15
  ql : wlen q ≤ 15
  nl : blen (p * q) ≤ 4000
  e2 : 2 ≤ e
  eo : e % 2 = 1
  eb : e ≤ 2147483647
  ep : e < p - 1
  eq : e < q - 1
  dlt : d < p * q
  dp : e * (d % (p - 1)) % (p - 1) = 1
  dq : e * (d % (q - 1)) % (q - 1) = 1
  inv : qi < p ∧ (q % p) * qi % p = 1
  near : (blen (p * q) : Int) / 2 - 100 < blen (if p ≤ q then q - p else p - q)
  long : blen (p * q) / 2 < blen d
  ne : p ≠ q

abbrev PKey (w : World) (k n en d p q : Nat) (v1 v2 : Value) (qi : Nat) (b : Bool) : Prop := Blk w k 80 [ptr n, .int .i64 en, ptr d, ptr p, ptr q, v1, v2, ptr qi, .bool b]
section
variable {w : World} {k n en d p q qi : Nat} {v1 v2 : Value} {b : Bool} (h : PKey w k n en d p q v1 v2 qi b)
include h in
theorem PKey.c0 : w.cell? ⟨k, 0, none⟩ = some (ptr n) := by rw [Blk.cell h]; rfl
include h in
theorem PKey.c1 : w.cell? ⟨k, 1, none⟩ = some (.int .i64 en) := by rw [Blk.cell h]; rfl
include h in
theorem PKey.c2 : w.cell? ⟨k, 2, none⟩ = some (ptr d) := by rw [Blk.cell h]; rfl
include h in
theorem PKey.c3 : w.cell? ⟨k, 3, none⟩ = some (ptr p) := by rw [Blk.cell h]; rfl
include h in
theorem PKey.c4 : w.cell? ⟨k, 4, none⟩ = some (ptr q) := by rw [Blk.cell h]; rfl
include h in
theorem PKey.c5 : w.cell? ⟨k, 5, none⟩ = some v1 := by rw [Blk.cell h]; rfl
include h in
theorem PKey.c6 : w.cell? ⟨k, 6, none⟩ = some v2 := by rw [Blk.cell h]; rfl
include h in
theorem PKey.c7 : w.cell? ⟨k, 7, none⟩ = some (ptr qi) := by rw [Blk.cell h]; rfl
include h in
theorem PKey.c8 : w.cell? ⟨k, 8, none⟩ = some (.bool b) := by rw [Blk.cell h]; rfl
include h in
theorem PKey.set (b' : Bool) : PKey (w.setCell ⟨k, 8, none⟩ (.bool b')) k n en d p q v1 v2 qi b' := Blk.setCell h 8 (.bool b')
end
theorem fit_le {v mv : Nat} (h : v ≤ mv) : (blen v + 7) / 8 ≤ 8 * wlen mv := by
  have := blen_mono h
  unfold wlen
  omega
theorem size_pos {v : Nat} (h : v ≠ 0) : 0 < (blen v + 7) / 8 := by have := blen_pos h; omega
theorem lt_size_self (v : Nat) : v < 256 ^ ((blen v + 7) / 8) := by
  have h1 := lt_two_blen v
  have h2 : 2 ^ blen v ≤ 2 ^ (8 * ((blen v + 7) / 8)) := Nat.pow_le_pow_right (by omega) (by omega)
  rw [Nat.pow_mul, show (2 : Nat) ^ 8 = 256 from rfl] at h2
  omega
theorem run_eqlIn_nil {P : Program} {t e : Nat} (hu : P.underlying t = some (.slice e)) (d b o n c : Nat) (w : World) : (Op.equalIn (d + 1) t (sl b o n c) (.slice none 0 0)).run P w = .ok false w := by
  simp [Op.equalIn, underlying, hu]
theorem run_eql_nil {P : Program} {t e : Nat} (hu : P.underlying t = some (.slice e)) (b o n c : Nat) (w : World) : (Op.equal t (sl b o n c) (.slice none 0 0)).run P w = .ok false w := run_eqlIn_nil hu 9999 b o n c w
/-- A row is not nil. -/
theorem eql_nil (b o n c : Nat) (w : World) : (binOp BinOp.eql 23 (sl b o n c) (.slice none 0 0)).run Tryz.prog w = .ok (.bool false) w := by
  simp [binOp, run_eql_nil (P := Tryz.prog) Tryz.underlying23]
theorem Blk.up {w w' : World} {b T : Nat} {vs : List Value} (h : Blk w b T vs) (m : Mod [] w w') : Blk w' b T vs := h.mod m (by simp)
/-- SetOverflowingBytes, whichever way: the two values of its result. -/
theorem k_SetOver2 (wg w : World) (x n v m mv : Nat) (vb : Value) (B : List Nat) (h0 : Mod [] wg w) (hm : MdAt wg m mv) (hx : NumAt w wg.heap.size x n v) (hb : GotB w vb B) (ha : ApartN w vb x) (hn : 0 < B.length) (hl : B.length ≤ 100000) :
    Calls Tryz.prog 113 #[ptr x, vb, ptr m] w fun e w' => ∃ v1 v2, e = .returned (.tuple #[v1, v2]) ∧ Mod [] wg w' ∧
      ((v1 = ptr x ∧ v2 = .nilIface ∧ NumAt w' wg.heap.size x (wlen mv) (bval B % mv)) ∨ (v1 = .pointer none ∧ ∃ er, v2 = .iface 149 (ptr er))) := by
  refine (k_SetOver wg w x n v m mv vb B h0 hm hx hb ha hn hl).mono ?_
  rintro e w' (⟨rfl, h1, h2⟩ | ⟨er, rfl, h1⟩)
  · exact ⟨_, _, rfl, h1, .inl ⟨rfl, rfl, h2⟩⟩
  · exact ⟨_, _, rfl, h1, .inr ⟨rfl, er, rfl⟩⟩
theorem k_SetBytes2 (wg w : World) (x n v m mv : Nat) (vb : Value) (B : List Nat) (h0 : Mod [] wg w) (hm : MdAt wg m mv) (hx : NumAt w wg.heap.size x n v) (hb : GotB w vb B) (ha : ApartN w vb x) (hn : 0 < B.length) (hl : B.length ≤ 100000) (hfit : bval B < mv → B.length ≤ 8 * wlen mv) :
    Calls Tryz.prog 56 #[ptr x, vb, ptr m] w fun e w' => ∃ v1 v2, e = .returned (.tuple #[v1, v2]) ∧ Mod [] wg w' ∧
      ((bval B < mv ∧ v1 = ptr x ∧ v2 = .nilIface ∧ NumAt w' wg.heap.size x (wlen mv) (bval B)) ∨ (mv ≤ bval B ∧ v1 = .pointer none ∧ ∃ er, v2 = .iface 149 (ptr er))) := by
  refine (k_SetBytes_any wg w x n v m mv vb B h0 hm hx hb ha hn hl hfit).mono ?_
  rintro e w' (⟨h0, rfl, h1, h2⟩ | ⟨h0, er, rfl, h1⟩)
  · exact ⟨_, _, rfl, h1, .inl ⟨h0, rfl, rfl, h2⟩⟩
  · exact ⟨_, _, rfl, h1, .inr ⟨h0, rfl, er, rfl⟩⟩
theorem fit_lt {B : List Nat} {v mv : Nat} (hl : B.length = (blen v + 7) / 8) (hv : bval B = v) : bval B < mv → B.length ≤ 8 * wlen mv := by
  intro h
  rw [hl]
  exact fit_le (by omega)
/-- A cell and the frame: what a drawn region keeps. -/
def KHeld (b w : World) (k i : Nat) (v : Value) : Prop := w.cell? ⟨k, i, none⟩ = some v ∧ Mod [] b w
theorem KHeld.keep {b w1 w2 : World} {k i : Nat} {v : Value} (h : KHeld b w1 k i v) (m : Mod [] w1 w2) : KHeld b w2 k i v := ⟨cell_up h.1 m, h.2.then m⟩
theorem KHeld.drew {b w : World} {k i : Nat} {v : Value} (h : KHeld b w k i v) : KHeld b w.drew k i v := h.keep ((Mod.refl [] w).drew)
theorem subV_zero {a m : Nat} (h : 0 < a) : subV 0 a m = m - a := by unfold subV; rw [if_neg (by omega)]; omega
theorem wlen_pos {v : Nat} (h : v ≠ 0) : 1 ≤ wlen v := by have := blen_pos h; unfold wlen; omega
theorem wlen_pred {v k : Nat} (h : wlen v ≤ k) : wlen (v - 1) ≤ k := by have := blen_mono (show v - 1 ≤ v by omega); unfold wlen at *; omega
theorem pred_even {v : Nat} (h : 1 ≤ v) (ho : v % 2 = 1) : (v - 1) % 2 = 0 := by omega
theorem eqB_self (a : Nat) : eqB a a = 1 := (eqB_iff a a).1.2 rfl
theorem eqB_one {a b : Nat} (h : a = b) : eqB a b = 1 := (eqB_iff a b).1.2 h

set_option maxRecDepth 100000 in
set_option maxHeartbeats 1600000 in
theorem k_check (w : World) (k m en mv : Nat) (hk : k < w.heap.size) (hc0 : w.cell? ⟨k, 0, none⟩ = some (ptr m)) (hc1 : w.cell? ⟨k, 1, none⟩ = some (.int .i64 en)) (hm : MdAt w m mv) (hb : mv % 2 = 1) (h2 : 2 ≤ en) (ho : en % 2 = 1) (hl : en ≤ 2147483647) :
    Calls Tryz.prog 102 #[ptr k] w fun e w' => ∃ f, e = .returned (.tuple #[.bool f, .nilIface]) ∧ Mod [] w w' := by
  have ha := and_one_i64 (n := en) (by omega)
  rw [ho] at ha
  have h2' : ¬ (en : Int) < 2 := by omega
  have hl' : ¬ (2147483647 : Int) < (en : Int) := by omega
  have HB := hide hb
  clear ho h2 hl hb
  go_enter Tryz.func102, Tryz.ntmps102
  go_wp2_with fail
  refine (k_Nat _ m mv hm).mono ?_
  rintro e w1 ⟨y, rfl, m1, hy1⟩
  have hm1 := hm.mod m1
  have hc0' : w1.cell? ⟨k, 0, none⟩ = some (ptr m) := by rw [← hc0]; exact World.cell?_of_block (m1.block k hk (by simp))
  have hc1' : w1.cell? ⟨k, 1, none⟩ = some (.int .i64 en) := by rw [← hc1]; exact World.cell?_of_block (m1.block k hk (by simp))
  go_wp2_with fail
  refine (k_IsOdd _ _ y _ _ hy1).mono ?_; rintro e w' ⟨rfl, rfl⟩
  rw [HB.out]
  obtain ⟨bl, hbl⟩ : ∃ bl, bl = blen mv := ⟨_, rfl⟩
  have HBL := hide hbl
  clear hbl
  go_wp2_with fail
  refine (k_BitLen _ m _ hm1).mono ?_; rintro e w' ⟨rfl, rfl⟩
  rw [← HBL.out]
  go_wp2_with fail
  all_goals
    refine (k_BitLen _ m _ hm1).mono ?_; rintro e w' ⟨rfl, rfl⟩
    rw [← HBL.out]
  all_goals go_wp2_with fail
  all_goals go_ret2
  all_goals exact ⟨_, rfl, m1⟩
end Go.Proofs.YtkhopfobjijnlaaGreatDoor
