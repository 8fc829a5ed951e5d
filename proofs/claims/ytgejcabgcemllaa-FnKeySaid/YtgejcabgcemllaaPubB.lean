/- impl.public and impl.Taken. -/
import Derived.Test.YtgejcabgcemllaaPubA
namespace Go.Proofs.Ytgejcabgcemllaa
open Go.RowKit

/-- The keys that the program takes. -/
def keyOk (N : Nat) (e : Int) : Bool := decide (1 < N) && decide (N % 2 = 1) && decide (3 ≤ e) && decide (e < 2147483648) && decide (e % 2 = 1)

theorem SliceB.lit {w : World} {v : Value} {B : List Nat} (h : SliceB w v B) : ∃ a c, v = .slice a B.length c := by
  rcases h with ⟨rfl, rfl⟩ | ⟨a, c, rfl, rfl⟩ | ⟨b, o, c, rfl, hc, hb⟩
  · exact ⟨_, _, rfl⟩
  · exact ⟨_, _, rfl⟩
  · exact ⟨_, _, rfl⟩

set_option maxRecDepth 100000 in
set_option maxHeartbeats 1600000 in
theorem c_public_bad (v : Value) (ex : Int) (B : List Nat) (w : World) (hb : SliceB w v B) (hB : Bytes B) (hbig : B.length ≤ 512) (h64 : ex < 2 ^ 63) (hk : keyOk (bval B) ex = false) :
    Calls Try.prog 12 #[v, .int .i64 ex] w fun e w' => e = .returned (.tuple #[.pointer none, .bool false]) ∧ Mod [] w w' := by
  obtain ⟨a, c, hv⟩ := hb.lit
  have C := hide (c_copied v B w hb (by omega))
  rw [hv] at C ⊢
  have hl : ¬ (512 : Int) < (B.length : Int) := by omega
  have HB := hide hbig
  have HK := hide hk
  have H64 := hide h64
  clear hbig hk h64
  go_enter Try.func12, Try.ntmps12
  go_wp2_with fail
  refine C.out.mono ?_
  rintro e w1 ⟨v', rfl, m1, s1, s2⟩
  go_wp2_with fail
  by_cases hs : bval B ≤ 1
  · refine (c_NewPublic_small v' ex B _ s1 hB (fun b o n c h => (s2 b o n c h).2) (by have := HB.out; omega) hs).mono ?_
    rintro e w2 ⟨q, rfl, m2⟩
    have m12 : Mod [] w w2 := Mod.trans (U := []) m1 m2 (by simp) (by simp)
    clear hs
    go_wp2_with fail
    go_ret2
    exact ⟨rfl, m12⟩
  · refine (c_NewPublic v' ex B _ s1 hB (fun b o n c h => (s2 b o n c h).2) (by have := HB.out; omega) (by omega)).mono ?_
    rintro e w2 ⟨k, m, x, p, M, R, rfl, m2, hk, hM, hv, g⟩
    have m12 : Mod [] w w2 := Mod.trans (U := []) m1 m2 (by simp) (by simp)
    have HV := hide hv
    have HS := hide hs
    clear hv hs
    go_wp2_with fail
    have hbad : val M % 2 = 0 ∨ ex < 2 ∨ ex % 2 = 0 ∨ 2147483647 < ex := by
      have h1 := HK.out
      have h2 := HS.out
      rw [HV.out]
      simp only [keyOk, Bool.and_eq_false_iff, decide_eq_false_iff_not] at h1
      omega
    refine (c_ZZCheck_bad k m x p _ ex M R _ hk hM hbad H64.out).mono ?_
    rintro e w3 ⟨q, rfl, m3⟩
    have m13 : Mod [] w w3 := Mod.trans (U := []) m12 m3 (by simp) (by simp)
    clear hbad
    go_wp2_with fail
    go_ret2
    exact ⟨rfl, m13⟩

set_option maxRecDepth 100000 in
set_option maxHeartbeats 1600000 in
theorem c_public_good (v : Value) (en : Nat) (B : List Nat) (w : World) (hb : SliceB w v B) (hB : Bytes B) (hbig : B.length ≤ 512) (hk : keyOk (bval B) (en : Int) = true) :
    Calls Try.prog 12 #[v, .int .i64 (en : Int)] w fun e w' => ∃ k m x p M R, e = .returned (.tuple #[ptr k, .bool true]) ∧ Mod [] w w' ∧ PHead w' k m (en : Int) ∧ ModIs w' w.heap.size m x p M R ∧ val M = bval B ∧ w.heap.size ≤ k := by
  obtain ⟨a, c, hv⟩ := hb.lit
  have C := hide (c_copied v B w hb (by omega))
  rw [hv] at C ⊢
  have hl : ¬ (512 : Int) < (B.length : Int) := by omega
  have HB := hide hbig
  have HK : Hid (1 < bval B ∧ bval B % 2 = 1 ∧ 3 ≤ en ∧ en < 2147483648 ∧ en % 2 = 1) := by
    refine hide ?_
    simp only [keyOk, Bool.and_eq_true, decide_eq_true_eq] at hk
    omega
  clear hbig hk
  go_enter Try.func12, Try.ntmps12
  go_wp2_with fail
  refine C.out.mono ?_
  rintro e w1 ⟨v', rfl, m1, s1, s2⟩
  go_wp2_with fail
  refine (c_NewPublic v' en B _ s1 hB (fun b o n c h => (s2 b o n c h).2) (by have := HB.out; omega) HK.out.1).mono ?_
  rintro e w2 ⟨k, m, x, p, M, R, rfl, m2, hk, hM, hv, g⟩
  have m12 : Mod [] w w2 := Mod.trans (U := []) m1 m2 (by simp) (by simp)
  have HV := hide hv
  clear hv
  go_wp2_with fail
  refine (c_ZZCheck_good k m x p _ en M R _ hk hM (by rw [HV.out]; exact HK.out.2.1) (by have := HK.out; omega) (by have := HK.out; omega) (by have := HK.out; omega)).mono ?_
  rintro e w3 ⟨rfl, m3⟩
  have m13 : Mod [] w w3 := Mod.trans (U := []) m12 m3 (by simp) (by simp)
  have gs := m1.size
  have hM3 := (hM.mod m3).mono gs
  have hk3 : PHead w3 k m en := Blk.mod hk m3 (by simp)
  go_wp2_with fail
  go_ret2
  exact ⟨k, m, x, p, M, R, rfl, m13, hk3, hM3, HV.out, by omega⟩

set_option maxRecDepth 100000 in
theorem c_Taken (v : Value) (ex : Int) (B : List Nat) (w : World) (hb : SliceB w v B) (hB : Bytes B) (hbig : B.length ≤ 512) (h64 : ex < 2 ^ 63) :
    Calls Try.prog 5 #[v, .int .i64 ex] w fun e w' => e = .returned (.bool (keyOk (bval B) ex)) ∧ Mod [] w w' := by
  cases hk : keyOk (bval B) ex
  · have C := hide (c_public_bad v ex B w hb hB hbig h64 hk)
    clear hk h64 hbig
    go_enter Try.func5, Try.ntmps5
    go_wp2_with fail
    refine C.out.mono ?_
    rintro e w1 ⟨rfl, m1⟩
    go_wp2_with fail
    go_ret
    exact ⟨rfl, m1⟩
  · obtain ⟨en, rfl⟩ : ∃ en : Nat, ex = (en : Int) := by
      simp only [keyOk, Bool.and_eq_true, decide_eq_true_eq] at hk
      exact ⟨ex.toNat, by omega⟩
    have C := hide (c_public_good v en B w hb hB hbig hk)
    clear hk h64 hbig
    go_enter Try.func5, Try.ntmps5
    go_wp2_with fail
    refine C.out.mono ?_
    rintro e w1 ⟨k, m, x, p, M, R, rfl, m1, _⟩
    go_wp2_with fail
    go_ret
    exact ⟨rfl, m1⟩
end Go.Proofs.Ytgejcabgcemllaa
