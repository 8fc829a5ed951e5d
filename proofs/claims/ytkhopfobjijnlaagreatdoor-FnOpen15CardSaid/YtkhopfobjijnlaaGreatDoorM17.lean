/- bigmod's resetFor, cmpGeq, setBytes where the bytes do not fit, SetBytes, Size. -/
import Derived.Test.YtkhopfobjijnlaaGreatDoorM10
set_option linter.all false
namespace Go.Proofs.YtkhopfobjijnlaaGreatDoor
open Go.RowKit

theorem Mod.keep {w0 w w' : World} {S : List Nat} (h : Mod [] w0 w) (m : Mod S w w') (hS : ∀ x, x ∈ S → w0.heap.size ≤ x) : Mod [] w0 w' :=
  Mod.trans (U := []) h m (by simp) (fun x hx hlt => by have := hS x hx; omega)
theorem Mod.keep2 {w0 w w' : World} {x p : Nat} (h : Mod [] w0 w) (m : Mod [x, p] w w') (hx : w0.heap.size ≤ x) (hp : w0.heap.size ≤ p) : Mod [] w0 w' :=
  h.keep m (by intro a ha; simp at ha; omega)
theorem Mod.keep1 {w0 w w' : World} {p : Nat} (h : Mod [] w0 w) (m : Mod [p] w w') (hp : w0.heap.size ≤ p) : Mod [] w0 w' :=
  h.keep m (by intro a ha; simp at ha; omega)
theorem Mod.then {w0 w w' : World} (h : Mod [] w0 w) (m : Mod [] w w') : Mod [] w0 w' := h.keep m (by simp)

set_option maxRecDepth 100000 in
theorem c_resetFor (x p m y q k : Nat) (odd : Bool) (r : Value) (L R M Q : List Nat) (w : World) (h : NatIs w x p L R) (hm : MHead w m y odd k r) (hy : NatIs w y q M Q) :
    Calls Tryz.prog 79 #[ptr x, ptr m] w fun e w' =>
      ∃ p' R', e = .returned (ptr x) ∧ Mod [x, p] w w' ∧ NatIs w' x p' (List.replicate M.length 0) R' ∧ Kept w p p' := by
  have hc := hm.c0
  have hc2 := hy.cell
  have hcap := hy.cap
  go_enter Tryz.func79, Tryz.ntmps79
  go_wp2_with fail
  refine (c_reset x p M.length L R _ h (by omega)).mono ?_
  rintro e w1 ⟨p', R', rfl, m1, hx1, k1⟩
  go_wp2_with fail
  go_ret
  exact ⟨p', R', rfl, m1, hx1, k1⟩

/-- 1 where X is not below Y. -/
def geqB (a b : Nat) : Nat := if b ≤ a then 1 else 0
theorem geqB_le (a b : Nat) : geqB a b ≤ 1 := by unfold geqB; split <;> omega
theorem geq_subC {X Y : List Nat} (hX : Words X) (hY : Words Y) (h : Y.length = X.length) : notB (subC X Y X.length) = geqB (val X) (val Y) := by
  rw [subC_whole hX hY h]
  unfold geqB notB
  by_cases hlt : val X < val Y
  · rw [if_pos hlt, if_neg (by omega)]
  · rw [if_neg hlt, if_pos (by omega)]

set_option maxRecDepth 100000 in
set_option maxHeartbeats 1600000 in
theorem c_cmpGeq (x y px py : Nat) (Lx Rx Ly Ry : List Nat) (w : World) (hx : NatIs w x px Lx Rx) (hy : NatIs w y py Ly Ry) (hlen : Ly.length = Lx.length) (wx : Words Lx) (wy : Words Ly) :
    Calls Tryz.prog 81 #[ptr x, ptr y] w fun e w' => e = .returned (u64 (geqB (val Lx) (val Ly))) ∧ Mod [] w w' := by
  have hcx := hx.cell
  have hcy := hy.cell
  have hcap := hx.cap
  have hcapy := hy.cap
  have HG := hide (geq_subC wx wy hlen)
  rw [hlen] at hcy
  have H1 := hide hlen
  have hle : Lx.length ≤ Lx.length + Ry.length := by omega
  clear hlen
  go_enter Tryz.func81, Tryz.ntmps81
  go_wp2_with fail
  go_loopw [8, 9] (fun c i wr => ∃ k : Nat, k ≤ Lx.length ∧ i = i64 k ∧ c = u64 (subC Lx Ly k) ∧ Mod [] w wr) (fun _ i _ => Lx.length - (intOf i).toNat)
  case atStart => exact ⟨0, Nat.zero_le _, rfl, rfl, Mod.refl _ _⟩
  case round =>
    obtain ⟨k, hk, rfl, rfl, hm⟩ := hrel
    have hc1 := subC_le Lx Ly k
    by_cases hlt : k < Lx.length
    · have h1 := (hx.mod hm (by simp) (by simp)).at k hlt
      have h2 := (hy.mod hm (by simp) (by simp)).at k (by rw [H1.out]; exact hlt)
      have hs : Hid (subHi (nth Lx k) (nth Ly k) (subC Lx Ly k) = subC Lx Ly (k + 1)) := hide rfl
      have hm2 := hm.drew
      clear hm
      go_wp2_with fail
      go_region_with (first | (go_at_call 111; refine (c_Sub _ _ _ hc1 _).mono ?_; rintro e w' ⟨rfl, rfl⟩))
      all_goals go_wp2_with fail
      all_goals go_roundw
      all_goals first
        | exact ⟨k + 1, by omega, by go_num, ret_word hs.out, hm2⟩
        | (simp [intOf]; omega)
    · obtain rfl : k = Lx.length := by omega
      go_wp2_with fail
      refine (c_not _ hc1 _).mono ?_
      rintro e w' ⟨rfl, rfl⟩
      rw [HG.out]
      go_wp2_with fail
      go_ret
      exact ⟨rfl, hm⟩

set_option maxRecDepth 100000 in
theorem c_ModSize (m y q k : Nat) (odd : Bool) (r : Value) (M Q : List Nat) (w : World) (hm : MHead w m y odd k r) (hy : NatIs w y q M Q) (wM : Words M) :
    Calls Tryz.prog 94 #[ptr m] w fun e w' => e = .returned (i64 ((blen (val M) + 7) / 8)) ∧ w = w' := by
  obtain ⟨n, hn⟩ : ∃ n, n = blen (val M) := ⟨_, rfl⟩
  have hb : n ≤ 6400000 := by
    obtain ⟨top, ht⟩ : ∃ t : Nat, t = 6400000 := ⟨_, rfl⟩
    rw [hn, ← ht]
    refine blen_le ?_
    have h1 := val_lt wM
    have h2 := hy.cap
    have h3 : W ^ M.length = 2 ^ (64 * M.length) := by rw [W_eq, Nat.pow_mul]
    have h4 : 2 ^ (64 * M.length) ≤ 2 ^ top := Nat.pow_le_pow_right (by omega) (by omega)
    rw [h3] at h1
    exact Nat.lt_of_lt_of_le h1 h4
  obtain ⟨s, hs⟩ : ∃ s, s = (n + 7) / 8 := ⟨_, rfl⟩
  have C := hide (c_BitLen m y q k odd r M Q w hm hy wM)
  rw [← hn] at C ⊢
  rw [← hs]
  have e1 : Hid (((n : Int) + 7) / 8 = (s : Int)) := hide (by omega)
  clear hn hs
  go_enter Tryz.func94, Tryz.ntmps94
  go_wp2_with fail
  refine C.out.mono ?_
  rintro e w' ⟨rfl, rfl⟩
  go_wp2_with fail
  rw [e1.out]
  go_ret
  exact ⟨rfl, rfl⟩

set_option maxRecDepth 100000 in
set_option maxHeartbeats 4000000 in
theorem c_setBytes_over (x p n bb o c : Nat) (R B : List Nat) (w : World) (h : NatIs w x p (List.replicate n 0) R) (hb : CellsB w bb o B) (hB : Bytes B) (hc : B.length ≤ c) (hne : bb ≠ p) (hover : 8 * n < B.length) (hbig : B.length ≤ 1000000) :
    Calls Tryz.prog 80 #[ptr x, sl bb o B.length c] w fun e w' =>
      ∃ er, e = .returned (.iface 149 (ptr er)) ∧ Mod [p] w w' := by
  have hcap := h.cap
  rw [List.length_replicate] at hcap
  have h00 : bb < w.heap.size := hb.lt (by omega)
  go_enter Tryz.func80, Tryz.ntmps80
  go_wp2_with fail
  go_loopw [5, 6] (fun i k wr => ∃ (jn kn : Nat) (V : List Nat), i = i64 jn ∧ k = i64 kn ∧ kn ≤ n ∧ Hid (SB B V n kn 0 jn) ∧ jn ≤ B.length ∧ Mod [p] w wr ∧ NatIs wr x p V R) (fun i _ _ => (intOf i).toNat)
  case atStart => exact ⟨B.length, 0, _, rfl, rfl, by omega, hide (SB.start B n), by omega, Mod.refl _ _, h⟩
  case round =>
    obtain ⟨j, k, V, rfl, rfl, hk, hS, hj, hm, hx⟩ := hrel
    have hVl := hS.out.len
    have hl := hS.out.left
    have hcx := hx.cell
    rw [hVl] at hcx
    by_cases hlt : k < n
    · have h8 : 8 ≤ j := by omega
      obtain ⟨i, hij⟩ : ∃ i, j = i + 8 := ⟨j - 8, by omega⟩
      have C := hide (c_beUint' bb o i (j - i) (c - i) B wr.drew ((hb.mod hm (by simpa using hne)).drew) hB (by omega) (by omega) (by omega))
      have hcp := hx.at k (by omega)
      have hfp := hx.row.frozen k
      have e8 : IntKind.i64.wrap ((j : Int) - 8) = (i : Int) := by rw [IntKind.wrap_i64]; omega
      have g1 : (i : Int) ≤ (j : Int) := by omega
      have g2 : ¬ c = i := by omega
      have g3 : (j : Int) ≤ (c : Int) := by omega
      have hS2 := hide ((show SB B V n k 0 (i + 8) by rw [← hij]; exact hS.out).word hB hlt)
      have HIJ := hide hij
      have HVL := hide hVl
      clear hij hl hVl hover
      go_wp2_with fail
      go_region_with (go_at_call 110; refine C.out.mono ?_; rintro e w' ⟨rfl, k2, rfl⟩)
      all_goals
        have hm2 : Mod [p] w ((wr.drewN (1 + k2)).setCell ⟨p, k, none⟩ (u64 (be8 B i))) := (hm.drewN _).setCell _ _ (by simp)
        have hx2 : NatIs ((wr.drewN (1 + k2)).setCell ⟨p, k, none⟩ (u64 (be8 B i))) x p (V.set k (be8 B i)) R :=
          (hx.drewN (1 + k2)).put (by simp) (Below.heap_setCell _ _ _ _ hx.ne) (row_set (hx.drewN (1 + k2)).row (by rw [HVL.out]; exact hlt))
        go_wp2_with fail
        go_roundw
        case rel => exact ⟨i, k + 1, _, rfl, by go_num, by omega, hS2, by have := HIJ.out; omega, hm2, hx2⟩
        case measure => have := HIJ.out; simp [intOf]; omega
    · have hj0 : (0 : Int) < (j : Int) := by omega
      clear hl hover hVl hS
      go_wp2_with fail
      go_loop [5, 7] (fun i s => i = i64 j ∧ s = i64 0) (fun _ _ => 0)
      case atStart => exact ⟨rfl, rfl⟩
      case round =>
        obtain ⟨rfl, rfl⟩ := hrel
        go_wp2_with fail
        refine (c_errNew _ _).mono ?_
        rintro e w2 ⟨er, rfl, m2⟩
        have m02 : Mod [p] w w2 := Mod.trans (U := [p]) hm m2 (fun a ha _ => ha) (by simp)
        go_wp2_with fail
        go_ret
        exact ⟨er, rfl, m02⟩

/-- setBytes of n words by bytes that fit. -/
theorem c_setBytesF (x p n : Nat) (v : Value) (R B : List Nat) (w : World) (h : NatIs w x p (List.replicate n 0) R) (hb : SliceB w v B) (hB : Bytes B) (hne : Apart v p) (hfit : B.length ≤ 8 * n) (hn : 0 < B.length) :
    Calls Tryz.prog 80 #[ptr x, v] w fun e w' =>
      ∃ V, e = .returned .nilIface ∧ Mod [p] w w' ∧ NatIs w' x p V R ∧ V.length = n ∧ Words V ∧ val V = bval B := by
  rcases hb with ⟨rfl, rfl⟩ | ⟨a, c, rfl, rfl⟩ | ⟨b, o, c, rfl, hc, hb⟩
  · simp at hn
  · simp at hn
  · exact c_setBytes x p n b o c R B w h hb hB hc (hne _ _ _ _ rfl) hfit

theorem SliceB.isSlice {w : World} {v : Value} {B : List Nat} (h : SliceB w v B) : ∃ a c, v = .slice a B.length c := by
  rcases h with ⟨rfl, rfl⟩ | ⟨a, c, rfl, rfl⟩ | ⟨b, o, c, rfl, hc, hb⟩
  · exact ⟨_, _, rfl⟩
  · exact ⟨_, _, rfl⟩
  · exact ⟨_, _, rfl⟩

/-- The bytes are old and the number's blocks are none of theirs. -/
theorem apart_kept {v : Value} {w : World} {p p1 : Nat} (hp : Apart v p) (hnew : ∀ b o n c, v = sl b o n c → b < w.heap.size) (k1 : Kept w p p1) : Apart v p1 := by
  intro b o n c hv
  have h0 := hp _ _ _ _ hv
  have h2 := hnew _ _ _ _ hv
  rcases k1 with k1 | k1
  · rw [k1]; exact h0
  · omega

set_option maxRecDepth 100000 in
set_option maxHeartbeats 1600000 in
/-- SetBytes where the bytes have room in the modulus' words. -/
theorem c_SetBytes (x p m y q k : Nat) (odd : Bool) (r v : Value) (L R M Q B : List Nat) (w : World) (h : NatIs w x p L R) (hm : MHead w m y odd k r) (hy : NatIs w y q M Q) (wM : Words M)
    (hb : SliceB w v B) (hB : Bytes B) (hx : Apart v x) (hp : Apart v p) (hnew : ∀ b o n c, v = sl b o n c → b < w.heap.size) (hfit : B.length ≤ 8 * M.length) (hn : 0 < B.length)
    (d1 : y ≠ x) (d2 : q ≠ p) (d3 : m ≠ x) :
    Calls Tryz.prog 56 #[ptr x, v, ptr m] w fun e w' =>
      (bval B < val M → ∃ p' V R', e = .returned (.tuple #[ptr x, .nilIface]) ∧ Mod [x, p] w w' ∧ NatIs w' x p' V R' ∧ Kept w p p' ∧ Below' V M ∧ val V = bval B) ∧
      (val M ≤ bval B → ∃ er, e = .returned (.tuple #[.pointer none, .iface 149 (ptr er)]) ∧ Mod [x, p] w w') := by
  obtain ⟨a, c, hv⟩ := hb.isSlice
  have d4 : q ≠ x := hy.row.ne h.head (by decide)
  have d5 : y ≠ p := hy.head.ne h.row (by decide)
  have d6 : m ≠ p := Blk.ne hm h.row (by decide)
  have hqlt := hy.plt
  have H : ∀ w1, Mod [x, p] w w1 → ∀ p1 R1, NatIs w1 x p1 (List.replicate M.length 0) R1 → Kept w p p1 → Hid (SliceB w1 v B ∧ Apart v p1 ∧ MHead w1 m y odd k r ∧ NatIs w1 y q M Q ∧ q ≠ p1) := by
    intro w1 m1 p1 R1 h1 k1
    refine hide ⟨hb.mod m1 (by simp; exact ⟨hx, hp⟩), apart_kept hp hnew k1, Blk.mod hm m1 (by simp; exact ⟨d3, d6⟩), hy.mod m1 (by simp; exact ⟨d1, d5⟩) (by simp; exact ⟨d4, d2⟩), ?_⟩
    rcases k1 with hk | hk <;> omega
  obtain ⟨bv, hbv⟩ : ∃ bv, bv = bval B := ⟨_, rfl⟩
  have HF := hide hfit
  have HN := hide hn
  subst hv
  clear hfit hn
  rw [← hbv]
  go_enter Tryz.func56, Tryz.ntmps56
  go_wp2_with fail
  refine (c_resetFor x p m y q k odd r L R M Q _ h hm hy).mono ?_
  rintro e w1 ⟨p1, R1, rfl, m1, h1, k1⟩
  have HH := H w1 m1 p1 R1 h1 k1
  go_wp2_with fail
  refine (c_setBytesF x p1 M.length _ R1 B _ h1 HH.out.1 hB HH.out.2.1 HF.out HN.out).mono ?_
  rintro e w2 ⟨V, rfl, m2, h2, hVl, hVw, hVv⟩
  have hp1x : p1 ≠ x := h1.ne.symm
  have hm2 : MHead w2 m y odd k r := Blk.mod HH.out.2.2.1 m2 (by simp; exact Blk.ne HH.out.2.2.1 h1.row (by decide))
  have hy2 : NatIs w2 y q M Q := HH.out.2.2.2.1.mod m2 (by simp; exact HH.out.2.2.2.1.head.ne h1.row (by decide)) (by simp; exact HH.out.2.2.2.2)
  have m12 : Mod [x, p] w w2 := Mod.trans (U := [x, p]) m1 m2 (fun a ha _ => ha) (fun a ha hlt => by
    simp at ha
    rcases k1 with hk | hk
    · simp [ha, hk]
    · omega)
  have hc0 := hm2.c0
  have C := hide (c_cmpGeq x y p1 q V R1 M Q w2 h2 hy2 hVl.symm hVw wM)
  rw [hVv, ← hbv] at C
  have HV := hide (And.intro hVl (hVv.trans hbv.symm))
  clear hVl hVv hbv
  obtain ⟨g, hg⟩ : ∃ g, g = geqB bv (val M) := ⟨_, rfl⟩
  rw [← hg] at C
  have hgc : (g = 0 ∧ bv < val M) ∨ (g = 1 ∧ val M ≤ bv) := by
    rw [hg]; unfold geqB
    by_cases h : val M ≤ bv
    · exact .inr ⟨if_pos h, h⟩
    · exact .inl ⟨if_neg h, by omega⟩
  clear hg
  go_wp2_with fail
  refine C.out.mono ?_
  rintro e w3 ⟨rfl, m3⟩
  have m13 : Mod [x, p] w w3 := Mod.trans (U := [x, p]) m12 m3 (fun a ha _ => ha) (by simp)
  have h3 := h2.mod m3 (by simp) (by simp)
  rcases hgc with ⟨rfl, hlt⟩ | ⟨rfl, hge⟩
  · have HL := hide hlt
    clear hlt
    go_wp2_with fail
    go_ret2
    exact ⟨fun _ => ⟨p1, V, R1, rfl, m13, h3, k1, ⟨HV.out.1, hVw, by rw [HV.out.2]; exact HL.out⟩, HV.out.2⟩, fun hh => by have := HL.out; omega⟩
  · have HL := hide hge
    clear hge
    go_wp2_with fail
    refine (c_errNew _ _).mono ?_
    rintro e w4 ⟨er, rfl, m4⟩
    have m14 : Mod [x, p] w w4 := Mod.trans (U := [x, p]) m13 m4 (fun a ha _ => ha) (by simp)
    go_wp2_with fail
    go_ret2
    exact ⟨fun hh => by have := HL.out; omega, fun _ => ⟨er, rfl, m14⟩⟩
end Go.Proofs.YtkhopfobjijnlaaGreatDoor
