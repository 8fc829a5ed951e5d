/- rsa's ZZNewPublicKey, checkPublicKey, ZZCheckPublicKey; impl.public and impl.Taken. -/
import Derived.Test.YtgejcabgcemllaaAppA
namespace Go.Proofs.Ytgejcabgcemllaa
open Go.RowKit

/-- Block k is a PublicKey: the modulus' block, the exponent. -/
abbrev PHead (w : World) (k m : Nat) (e : Int) : Prop := Blk w k 76 [ptr m, .int .i64 e]
theorem PHead.c0 {w : World} {k m : Nat} {e : Int} (h : PHead w k m e) : w.cell? ⟨k, 0, none⟩ = some (ptr m) := by rw [Blk.cell h]; rfl
theorem PHead.c1 {w : World} {k m : Nat} {e : Int} (h : PHead w k m e) : w.cell? ⟨k, 1, none⟩ = some (.int .i64 e) := by rw [Blk.cell h]; rfl

set_option maxRecDepth 100000 in
theorem c_NewPublic_small (v : Value) (ex : Int) (B : List Nat) (w : World) (hb : SliceB w v B) (hB : Bytes B) (hnew : ∀ b o n c, v = sl b o n c → b < w.heap.size) (hbig : B.length ≤ 100000) (hs : bval B ≤ 1) :
    Calls Try.prog 27 #[v, .int .i64 ex] w fun e w' => ∃ q, e = .returned (.tuple #[.pointer none, .iface 107 (ptr q)]) ∧ Mod [] w w' := by
  go_enter Try.func27, Try.ntmps27
  go_wp2_with fail
  refine (c_NewModulus_small v B _ hb hB hnew hbig hs).mono ?_; rintro e w1 ⟨q, rfl, m1⟩
  clear hs
  go_wp2_with fail
  go_ret2
  exact ⟨q, rfl, m1⟩

set_option maxRecDepth 100000 in
theorem c_NewPublic (v : Value) (ex : Int) (B : List Nat) (w : World) (hb : SliceB w v B) (hB : Bytes B) (hnew : ∀ b o n c, v = sl b o n c → b < w.heap.size) (hbig : B.length ≤ 100000) (hs : 1 < bval B) :
    Calls Try.prog 27 #[v, .int .i64 ex] w fun e w' => ∃ k m x p M R, e = .returned (.tuple #[ptr k, .nilIface]) ∧ Mod [] w w' ∧ PHead w' k m ex ∧ ModIs w' w.heap.size m x p M R ∧ val M = bval B ∧
      w.heap.size ≤ k := by
  go_enter Try.func27, Try.ntmps27
  go_wp2_with fail
  refine (c_NewModulus v B _ hb hB hnew hbig hs).mono ?_; rintro e w1 ⟨m, x, p, M, R, rfl, m1, hM, hv, g1, g2⟩
  have HV := hide hv
  have gs := m1.size
  clear hv hs
  go_wp2_with fail
  go_ret2
  refine ⟨_, m, x, p, M, R, rfl, m1.alloc _, Blk.new w1 _ [ptr m, .int .i64 ex], hM.mod ((Mod.refl [] _).alloc _), HV.out, gs⟩

theorem and_one_i64 {n : Nat} (h : n < 2 ^ 63) : bits .and .i64 (n : Int) 1 = ((n % 2 : Nat) : Int) := by
  have hx : n &&& 1 = n % 2 := Nat.and_one_is_mod n
  have h1 : (BitVec.ofInt 64 (n : Int)).toNat = n := by
    rw [BitVec.ofInt_natCast, BitVec.toNat_ofNat]; exact Nat.mod_eq_of_lt (by omega)
  have h2 : (BitVec.ofInt 64 (1 : Int)).toNat = 1 := by decide
  show IntKind.i64.wrap ((BitVec.ofInt 64 (n : Int) &&& BitVec.ofInt 64 (1 : Int)).toNat : Int) = _
  rw [BitVec.toNat_and, h1, h2, hx, IntKind.wrap_i64]
  omega

set_option maxRecDepth 100000 in
set_option maxHeartbeats 1600000 in
theorem c_check_bad (k m x p n : Nat) (ex : Int) (M R : List Nat) (w : World) (hk : PHead w k m ex) (hM : ModIs w n m x p M R) (hb : val M % 2 = 0 ∨ ex < 2 ∨ ex % 2 = 0 ∨ 2147483647 < ex) (h64 : ex < 2 ^ 63) :
    Calls Try.prog 38 #[ptr k] w fun e w' => ∃ q, e = .returned (.tuple #[.bool false, .iface 107 (ptr q)]) ∧ Mod [] w w' := by
  have hc0 := hk.c0
  obtain ⟨o, kk, r, hm⟩ := hM.head
  go_enter Try.func38, Try.ntmps38
  go_wp2_with fail
  refine (c_ModNat m x p kk o r M R _ hm hM.nat).mono ?_
  rintro e w1 ⟨y, q, S, rfl, m1, hy1⟩
  have hk1 : PHead w1 k m ex := Blk.mod hk m1 (by simp)
  have hM1 := hM.mod m1
  have hm1 : MHead w1 m x o kk r := Blk.mod hm m1 (by simp)
  have hc0 := hk1.c0
  have hc1 := hk1.c1
  go_wp2_with fail
  refine (c_IsOdd y q M S _ hy1 hM1.words).mono ?_; rintro e w' ⟨rfl, rfl⟩
  by_cases hev : val M % 2 = 0
  · rw [hev]
    clear hev hb
    go_wp2_with fail
    refine (c_errNew _ _).mono ?_; rintro e w2 ⟨q, rfl, m2⟩
    have m02 : Mod [] w w2 := Mod.trans (U := []) m1 m2 (by simp) (by simp)
    go_wp2_with fail
    go_ret2
    exact ⟨q, rfl, m02⟩
  · have hod : val M % 2 = 1 := by omega
    rw [hod]
    have hb3 : ex < 2 ∨ ex % 2 = 0 ∨ 2147483647 < ex := by omega
    clear hev hod hb
    obtain ⟨bl, hbl⟩ : ∃ bl, bl = blen (val M) := ⟨_, rfl⟩
    have hcases : ex < 2 ∨ (¬ ex < 2 ∧ ∃ en : Nat, ex = (en : Int) ∧ bits .and .i64 (en : Int) 1 = 0) ∨ (¬ ex < 2 ∧ ∃ en : Nat, ex = (en : Int) ∧ bits .and .i64 (en : Int) 1 = 1 ∧ 2147483647 < en) := by
      by_cases h2 : ex < 2
      · exact .inl h2
      · obtain ⟨en, rfl⟩ : ∃ en : Nat, ex = (en : Int) := ⟨ex.toNat, by omega⟩
        have ha := and_one_i64 (n := en) (by omega)
        rcases Nat.mod_two_eq_zero_or_one en with he | ho
        · exact .inr (.inl ⟨h2, en, rfl, by rw [ha, he]; rfl⟩)
        · exact .inr (.inr ⟨h2, en, rfl, by rw [ha, ho]; rfl, by omega⟩)
    clear hb3 h64
    rcases hcases with h2 | ⟨h2, en, rfl, ha⟩ | ⟨h2, en, rfl, ha, hbg⟩
    · go_wp2_with fail
      refine (c_BitLen m x p kk o r M R _ hm1 hM1.nat hM1.words).mono ?_; rintro e w' ⟨rfl, rfl⟩
      rw [← hbl]
      go_wp2_with fail
      all_goals
        refine (c_BitLen m x p kk o r M R _ hm1 hM1.nat hM1.words).mono ?_; rintro e w' ⟨rfl, rfl⟩
        rw [← hbl]
      all_goals go_wp2_with fail
      all_goals
        refine (c_errNew _ _).mono ?_; rintro e w2 ⟨q, rfl, m2⟩
        have m02 : Mod [] w w2 := Mod.trans (U := []) m1 m2 (by simp) (by simp)
        go_wp2_with fail
        go_ret2
        exact ⟨q, rfl, m02⟩
    · go_wp2_with fail
      refine (c_BitLen m x p kk o r M R _ hm1 hM1.nat hM1.words).mono ?_; rintro e w' ⟨rfl, rfl⟩
      rw [← hbl]
      go_wp2_with fail
      all_goals
        refine (c_BitLen m x p kk o r M R _ hm1 hM1.nat hM1.words).mono ?_; rintro e w' ⟨rfl, rfl⟩
        rw [← hbl]
      all_goals go_wp2_with fail
      all_goals
        refine (c_errNew _ _).mono ?_; rintro e w2 ⟨q, rfl, m2⟩
        have m02 : Mod [] w w2 := Mod.trans (U := []) m1 m2 (by simp) (by simp)
        go_wp2_with fail
        go_ret2
        exact ⟨q, rfl, m02⟩
    · have hb1 : (2147483647 : Int) < (en : Int) := by omega
      have hb2 : ¬ (en : Int) ≤ 65536 := by omega
      go_wp2_with fail
      refine (c_BitLen m x p kk o r M R _ hm1 hM1.nat hM1.words).mono ?_; rintro e w' ⟨rfl, rfl⟩
      rw [← hbl]
      go_wp2_with fail
      all_goals
        refine (c_BitLen m x p kk o r M R _ hm1 hM1.nat hM1.words).mono ?_; rintro e w' ⟨rfl, rfl⟩
        rw [← hbl]
      all_goals go_wp2_with fail
      all_goals
        refine (c_errNew _ _).mono ?_; rintro e w2 ⟨q, rfl, m2⟩
        have m02 : Mod [] w w2 := Mod.trans (U := []) m1 m2 (by simp) (by simp)
        go_wp2_with fail
        go_ret2
        exact ⟨q, rfl, m02⟩

set_option maxRecDepth 100000 in
set_option maxHeartbeats 1600000 in
theorem c_check_good (k m x p n en : Nat) (M R : List Nat) (w : World) (hk : PHead w k m (en : Int)) (hM : ModIs w n m x p M R) (hb : val M % 2 = 1) (h2 : 2 ≤ en) (ho : en % 2 = 1) (hl : en ≤ 2147483647) :
    Calls Try.prog 38 #[ptr k] w fun e w' => ∃ f, e = .returned (.tuple #[.bool f, .nilIface]) ∧ Mod [] w w' := by
  have hc0 := hk.c0
  obtain ⟨o, kk, r, hm⟩ := hM.head
  have ha := and_one_i64 (n := en) (by omega)
  rw [ho] at ha
  have h2' : ¬ (en : Int) < 2 := by omega
  have hl' : ¬ (2147483647 : Int) < (en : Int) := by omega
  clear ho h2 hl
  go_enter Try.func38, Try.ntmps38
  go_wp2_with fail
  refine (c_ModNat m x p kk o r M R _ hm hM.nat).mono ?_
  rintro e w1 ⟨y, q, S, rfl, m1, hy1⟩
  have hk1 : PHead w1 k m en := Blk.mod hk m1 (by simp)
  have hM1 := hM.mod m1
  have hm1 : MHead w1 m x o kk r := Blk.mod hm m1 (by simp)
  have hc0 := hk1.c0
  have hc1 := hk1.c1
  go_wp2_with fail
  refine (c_IsOdd y q M S _ hy1 hM1.words).mono ?_; rintro e w' ⟨rfl, rfl⟩
  rw [hb]
  clear hb
  obtain ⟨bl, hbl⟩ : ∃ bl, bl = blen (val M) := ⟨_, rfl⟩
  go_wp2_with fail
  refine (c_BitLen m x p kk o r M R _ hm1 hM1.nat hM1.words).mono ?_; rintro e w' ⟨rfl, rfl⟩
  rw [← hbl]
  go_wp2_with fail
  all_goals
    refine (c_BitLen m x p kk o r M R _ hm1 hM1.nat hM1.words).mono ?_; rintro e w' ⟨rfl, rfl⟩
    rw [← hbl]
  all_goals go_wp2_with fail
  all_goals go_ret2
  all_goals exact ⟨_, rfl, m1⟩

set_option maxRecDepth 100000 in
theorem c_ZZCheck_bad (k m x p n : Nat) (ex : Int) (M R : List Nat) (w : World) (hk : PHead w k m ex) (hM : ModIs w n m x p M R) (hb : val M % 2 = 0 ∨ ex < 2 ∨ ex % 2 = 0 ∨ 2147483647 < ex) (h64 : ex < 2 ^ 63) :
    Calls Try.prog 29 #[ptr k] w fun e w' => ∃ q, e = .returned (.iface 107 (ptr q)) ∧ Mod [] w w' := by
  go_enter Try.func29, Try.ntmps29
  go_wp2_with fail
  refine (c_check_bad k m x p n ex M R w hk hM hb h64).mono ?_; rintro e w1 ⟨q, rfl, m1⟩
  clear hb h64
  go_wp2_with fail
  go_ret
  exact ⟨q, rfl, m1⟩

set_option maxRecDepth 100000 in
theorem c_ZZCheck_good (k m x p n en : Nat) (M R : List Nat) (w : World) (hk : PHead w k m (en : Int)) (hM : ModIs w n m x p M R) (hb : val M % 2 = 1) (h2 : 2 ≤ en) (ho : en % 2 = 1) (hl : en ≤ 2147483647) :
    Calls Try.prog 29 #[ptr k] w fun e w' => e = .returned .nilIface ∧ Mod [] w w' := by
  go_enter Try.func29, Try.ntmps29
  go_wp2_with fail
  refine (c_check_good k m x p n en M R w hk hM hb h2 ho hl).mono ?_; rintro e w1 ⟨f, rfl, m1⟩
  clear hb h2 ho hl
  go_wp2_with fail
  go_ret
  exact ⟨rfl, m1⟩

end Go.Proofs.Ytgejcabgcemllaa
