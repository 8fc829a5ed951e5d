/- bigmod's NewModulus and Modulus.Nat. -/
import Derived.Test.YtgejcabgcemllaaNatM
namespace Go.Proofs.Ytgejcabgcemllaa
open Go.RowKit

theorem ModIs.mono {w : World} {n n' m x p : Nat} {M R : List Nat} (h : ModIs w n m x p M R) (hn : n' ≤ n) : ModIs w n' m x p M R :=
  ⟨h.nat, h.words, h.top, h.big, h.room, h.even, fun ho => by
    obtain ⟨k, y, q, X, S, a, b, c, d, e, f, g⟩ := h.odd ho
    exact ⟨k, y, q, X, S, a, b, c, d, e, by omega, by omega⟩, by have := h.new; omega⟩

/-- A head of the modulus, whichever it is. -/
theorem ModIs.head {w : World} {n m x p : Nat} {M R : List Nat} (h : ModIs w n m x p M R) : ∃ o k r, MHead w m x o k r := by
  rcases Nat.mod_two_eq_zero_or_one (val M) with he | ho
  · exact ⟨_, _, _, h.even he⟩
  · obtain ⟨k, y, q, X, S, a, _⟩ := h.odd ho
    exact ⟨_, _, _, a⟩

theorem ModIs.mod {w w' : World} {n m x p : Nat} {M R : List Nat} (h : ModIs w n m x p M R) (hm : Mod [] w w') : ModIs w' n m x p M R :=
  ⟨h.nat.mod hm (by simp) (by simp), h.words, h.top, h.big, h.room, fun he => (h.even he).mod hm (by simp), fun ho => by
    obtain ⟨k, y, q, X, S, a, b, c, d, e, f, g⟩ := h.odd ho
    exact ⟨k, y, q, X, S, a.mod hm (by simp), b, c.mod hm (by simp) (by simp), d, e, f, g⟩, h.new⟩

theorem apart_of {v : Value} {w : World} (hnew : ∀ b o n c, v = sl b o n c → b < w.heap.size) {k : Nat} (hk : w.heap.size ≤ k) : Apart v k := by
  intro b o n c hv
  have := hnew _ _ _ _ hv
  omega

set_option maxRecDepth 100000 in
theorem c_NewModulus_small (v : Value) (B : List Nat) (w : World) (hb : SliceB w v B) (hB : Bytes B) (hnew : ∀ b o n c, v = sl b o n c → b < w.heap.size) (hbig : B.length ≤ 100000) (hs : bval B ≤ 1) :
    Calls Try.prog 37 #[v] w fun e w' => ∃ q, e = .returned (.tuple #[.pointer none, .iface 107 (ptr q)]) ∧ Mod [] w w' := by
  go_enter Try.func37, Try.ntmps37
  go_wp2_with fail
  refine (c_NewNat _).mono ?_; rintro e w1 ⟨x, p, rfl, m1, hx1, g1, g2⟩
  go_wp2_with fail
  refine (c_resetToBytes x p v _ _ B _ hx1 (hb.mod m1 (by simp)) hB (apart_of hnew g1) (apart_of hnew g2) (fun b o n c hv => Nat.lt_of_lt_of_le (hnew b o n c hv) m1.size) hbig).mono ?_
  rintro e w2 ⟨p2, V, R2, rfl, m2, hx2, k2, hVw, hVv, hVt, hVl⟩
  have m12 : Mod [] w w2 := Mod.trans (U := []) m1 m2 (by simp) (by simp; omega)
  go_wp2_with fail
  refine (c_newModulus_small x p2 V R2 _ hx2 (by rw [hVv]; exact hs)).mono ?_
  rintro e w3 ⟨q, rfl, m3⟩
  have m13 : Mod [] w w3 := Mod.trans (U := []) m12 m3 (by simp) (by simp)
  clear hVv
  go_wp2_with fail
  go_ret2
  exact ⟨q, rfl, m13⟩

set_option maxRecDepth 100000 in
theorem c_NewModulus (v : Value) (B : List Nat) (w : World) (hb : SliceB w v B) (hB : Bytes B) (hnew : ∀ b o n c, v = sl b o n c → b < w.heap.size) (hbig : B.length ≤ 100000) (hs : 1 < bval B) :
    Calls Try.prog 37 #[v] w fun e w' => ∃ m x p M R, e = .returned (.tuple #[ptr m, .nilIface]) ∧ Mod [] w w' ∧ ModIs w' w.heap.size m x p M R ∧ val M = bval B ∧ w.heap.size ≤ x ∧ w.heap.size ≤ p := by
  go_enter Try.func37, Try.ntmps37
  go_wp2_with fail
  refine (c_NewNat _).mono ?_; rintro e w1 ⟨x, p, rfl, m1, hx1, g1, g2⟩
  go_wp2_with fail
  refine (c_resetToBytes x p v _ _ B _ hx1 (hb.mod m1 (by simp)) hB (apart_of hnew g1) (apart_of hnew g2) (fun b o n c hv => Nat.lt_of_lt_of_le (hnew b o n c hv) m1.size) hbig).mono ?_
  rintro e w2 ⟨p2, V, R2, rfl, m2, hx2, k2, hVw, hVv, hVt, hVl⟩
  have m12 : Mod [] w w2 := Mod.trans (U := []) m1 m2 (by simp) (by simp; omega)
  have gp2 : w.heap.size ≤ p2 := k2.ge g2 m1.size
  have gsz := m12.size
  go_wp2_with fail
  refine (c_newModulus x p2 V R2 _ hx2 hVw (by rw [hVv]; exact hs) hVt (by omega)).mono ?_
  rintro e w3 ⟨q, rfl, m3, hM⟩
  have m13 : Mod [] w w3 := Mod.trans (U := []) m12 m3 (by simp) (by simp)
  have hM2 := hM.mono gsz
  have HV := hide hVv
  clear hVv hVl
  go_wp2_with fail
  go_ret2
  exact ⟨q, x, p2, V, R2, rfl, m13, hM2, HV.out, g1, gp2⟩

set_option maxRecDepth 100000 in
theorem c_ModNat (m x p k : Nat) (o : Bool) (r : Value) (M R : List Nat) (w : World) (hm : MHead w m x o k r) (hx : NatIs w x p M R) :
    Calls Try.prog 49 #[ptr m] w fun e w' => ∃ y q S, e = .returned (ptr y) ∧ Mod [] w w' ∧ NatIs w' y q M S := by
  go_enter Try.func49, Try.ntmps49
  go_wp2_with fail
  refine (c_NewNat _).mono ?_; rintro e w1 ⟨y, q, rfl, m1, hy1, g1, g2⟩
  have hm1 : MHead w1 m x o k r := Blk.mod hm m1 (by simp)
  have hc := hm1.c0
  have hx1 := hx.mod m1 (by simp) (by simp)
  have l1 := hx.xlt
  have l2 := hx.plt
  go_wp2_with fail
  refine (c_set y q x p _ _ M R _ hy1 hx1 (by omega) (by omega) (by omega) (by omega)).mono ?_
  rintro e w2 ⟨q2, S, rfl, m2, hy2, k2⟩
  have m12 : Mod [] w w2 := Mod.trans (U := []) m1 m2 (by simp) (by simp; omega)
  go_wp2_with fail
  go_ret
  exact ⟨y, q2, S, rfl, m12, hy2⟩
end Go.Proofs.Ytgejcabgcemllaa
