/- bigmod's NewModulus and Modulus.Nat. append onto the call's own rows; impl.copied. rsa's ZZNewPublicKey, checkPublicKey, ZZCheckPublicKey; impl.public and impl.Taken. impl.public and impl.Taken. -/
import Derived.Test.YtkhopfobjijnlaaGreatDoorM09
import Derived.Laws.OwnMore
import Derived.OwnWalk
set_option linter.all false
namespace Go.Proofs.YtkhopfobjijnlaaGreatDoor
open Go.RowKit

theorem ModIs.mono {w : World} {n n' m x p : Nat} {M R : List Nat} (h : ModIs w n m x p M R) (hn : n' ≤ n) : ModIs w n' m x p M R :=
  ⟨h.nat, h.words, h.top, h.big, h.room, h.even, fun ho => by
    obtain ⟨k, y, q, X, S, a, b, c, d, e, f, g⟩ := h.odd ho
    exact ⟨k, y, q, X, S, a, b, c, d, e, by omega, by omega⟩, by have := h.new; omega⟩

/-- A head of the modulus, whichever it is. -/
theorem ModIs.head {w : World} {n m x p : Nat} {M R : List Nat} (h : ModIs w n m x p M R) : ∃ o k r, MHead w m x o k r := by
  rcases Nat.mod_two_eq_zero_or_one (val M) with he | ho
  · exact ⟨_, _, _, h.even he⟩
  · obtain ⟨k, y, q, X, S, a, _⟩ := h.odd ho
    exact ⟨_, _, _, a⟩

theorem ModIs.mod {w w' : World} {n m x p : Nat} {M R : List Nat} (h : ModIs w n m x p M R) (hm : Mod [] w w') : ModIs w' n m x p M R :=
  ⟨h.nat.mod hm (by simp) (by simp), h.words, h.top, h.big, h.room, fun he => (h.even he).mod hm (by simp), fun ho => by
    obtain ⟨k, y, q, X, S, a, b, c, d, e, f, g⟩ := h.odd ho
    exact ⟨k, y, q, X, S, a.mod hm (by simp), b, c.mod hm (by simp) (by simp), d, e, f, g⟩, h.new⟩

theorem apart_of {v : Value} {w : World} (hnew : ∀ b o n c, v = sl b o n c → b < w.heap.size) {k : Nat} (hk : w.heap.size ≤ k) : Apart v k := by
  intro b o n c hv
  have := hnew _ _ _ _ hv
  omega

set_option maxRecDepth 100000 in
theorem c_NewModulus_small (v : Value) (B : List Nat) (w : World) (hb : SliceB w v B) (hB : Bytes B) (hnew : ∀ b o n c, v = sl b o n c → b < w.heap.size) (hbig : B.length ≤ 100000) (hs : bval B ≤ 1) :
    Calls Tryz.prog 54 #[v] w fun e w' => ∃ q, e = .returned (.tuple #[.pointer none, .iface 149 (ptr q)]) ∧ Mod [] w w' := by
  go_enter Tryz.func54, Tryz.ntmps54
  go_wp2_with fail
  refine (c_NewNat _).mono ?_; rintro e w1 ⟨x, p, rfl, m1, hx1, g1, g2⟩
  go_wp2_with fail
  refine (c_resetToBytes x p v _ _ B _ hx1 (hb.mod m1 (by simp)) hB (apart_of hnew g1) (apart_of hnew g2) (fun b o n c hv => Nat.lt_of_lt_of_le (hnew b o n c hv) m1.size) hbig).mono ?_
  rintro e w2 ⟨p2, V, R2, rfl, m2, hx2, k2, hVw, hVv, hVt, hVl⟩
  have m12 : Mod [] w w2 := Mod.trans (U := []) m1 m2 (by simp) (by simp; omega)
  go_wp2_with fail
  refine (c_newModulus_small x p2 V R2 _ hx2 (by rw [hVv]; exact hs)).mono ?_
  rintro e w3 ⟨q, rfl, m3⟩
  have m13 : Mod [] w w3 := Mod.trans (U := []) m12 m3 (by simp) (by simp)
  clear hVv
  go_wp2_with fail
  go_ret2
  exact ⟨q, rfl, m13⟩

set_option maxRecDepth 100000 in
theorem c_NewModulus (v : Value) (B : List Nat) (w : World) (hb : SliceB w v B) (hB : Bytes B) (hnew : ∀ b o n c, v = sl b o n c → b < w.heap.size) (hbig : B.length ≤ 100000) (hs : 1 < bval B) :
    Calls Tryz.prog 54 #[v] w fun e w' => ∃ m x p M R, e = .returned (.tuple #[ptr m, .nilIface]) ∧ Mod [] w w' ∧ ModIs w' w.heap.size m x p M R ∧ val M = bval B ∧ w.heap.size ≤ x ∧ w.heap.size ≤ p := by
  go_enter Tryz.func54, Tryz.ntmps54
  go_wp2_with fail
  refine (c_NewNat _).mono ?_; rintro e w1 ⟨x, p, rfl, m1, hx1, g1, g2⟩
  go_wp2_with fail
  refine (c_resetToBytes x p v _ _ B _ hx1 (hb.mod m1 (by simp)) hB (apart_of hnew g1) (apart_of hnew g2) (fun b o n c hv => Nat.lt_of_lt_of_le (hnew b o n c hv) m1.size) hbig).mono ?_
  rintro e w2 ⟨p2, V, R2, rfl, m2, hx2, k2, hVw, hVv, hVt, hVl⟩
  have m12 : Mod [] w w2 := Mod.trans (U := []) m1 m2 (by simp) (by simp; omega)
  have gp2 : w.heap.size ≤ p2 := k2.ge g2 m1.size
  have gsz := m12.size
  go_wp2_with fail
  refine (c_newModulus x p2 V R2 _ hx2 hVw (by rw [hVv]; exact hs) hVt (by omega)).mono ?_
  rintro e w3 ⟨q, rfl, m3, hM⟩
  have m13 : Mod [] w w3 := Mod.trans (U := []) m12 m3 (by simp) (by simp)
  have hM2 := hM.mono gsz
  have HV := hide hVv
  clear hVv hVl
  go_wp2_with fail
  go_ret2
  exact ⟨q, x, p2, V, R2, rfl, m13, hM2, HV.out, g1, gp2⟩

set_option maxRecDepth 100000 in
theorem c_ModNat (m x p k : Nat) (o : Bool) (r : Value) (M R : List Nat) (w : World) (hm : MHead w m x o k r) (hx : NatIs w x p M R) :
    Calls Tryz.prog 65 #[ptr m] w fun e w' => ∃ y q S, e = .returned (ptr y) ∧ Mod [] w w' ∧ NatIs w' y q M S := by
  go_enter Tryz.func65, Tryz.ntmps65
  go_wp2_with fail
  refine (c_NewNat _).mono ?_; rintro e w1 ⟨y, q, rfl, m1, hy1, g1, g2⟩
  have hm1 : MHead w1 m x o k r := Blk.mod hm m1 (by simp)
  have hc := hm1.c0
  have hx1 := hx.mod m1 (by simp) (by simp)
  have l1 := hx.xlt
  have l2 := hx.plt
  go_wp2_with fail
  refine (c_set y q x p _ _ M R _ hy1 hx1 (by omega) (by omega) (by omega) (by omega)).mono ?_
  rintro e w2 ⟨q2, S, rfl, m2, hy2, k2⟩
  have m12 : Mod [] w w2 := Mod.trans (U := []) m1 m2 (by simp) (by simp; omega)
  go_wp2_with fail
  go_ret
  exact ⟨y, q2, S, rfl, m12, hy2⟩
end Go.Proofs.YtkhopfobjijnlaaGreatDoor
namespace Go.Proofs.YtkhopfobjijnlaaGreatDoor
open Go.RowKit

theorem info_u8 : (Tryz.prog.info? 5).map (fun i => (i.zero, i.size, i.bytes)) = some (some (.int .u8 0), 1, 1) := by kernel_rfl
theorem info_int : (Tryz.prog.info? 3).map (fun i => (i.zero, i.size, i.bytes)) = some (some (.int .i64 0), 1, 8) := by kernel_rfl

theorem Mod.grown {w w' : World} {row : Option Nat} (h : w.grownBy w' row) {S : List Nat} (hr : ∀ k, row = some k → k < w.heap.size → k ∈ S) : Mod S w w' :=
  ⟨h.os, h.tape, h.output, h.size, fun k hk hS => h.block k hk (fun e => hS (hr k e.symm hk))⟩

/-- append(v, s...), v the call's own. -/
theorem run_app {t e : Nat} {z : Value} {B : Nat} (h1 : z.cells = #[z]) (ht : Tryz.prog.underlying t = some (.slice e)) (hi : (Tryz.prog.info? e).map (fun i => (i.zero, i.size, i.bytes)) = some (some z, 1, B)) (hB : B ≤ 16)
    (base : Nat) (v : Value) (n : Nat) (xs : List Value) (w : World) (hown : w.ownsRow base e 1 v n xs) (a : Addr) (c : Nat) (news : List Value) (m : Nat) (hl : news.length = m)
    (hnews : ∀ j u, news[j]? = some u → w.cell? (a.add j) = some u) (hc : ∀ u ∈ news, u.oneCell' = true) (hn : n + m ≤ 1000000) (hb : base ≤ w.heap.size) (ty : Nat) :
    ∃ v' w', (Builtin.append_ #[t, t] ty #[v, .slice (some a) m c]).run Tryz.prog w = .ok v' w' ∧ w'.ownsRow base e 1 v' (n + m) (xs ++ news) ∧ w.grownBy w' v.ownBlock := by
  obtain ⟨i, g1, g2, g3, g4⟩ := info_parts hi
  obtain ⟨v', w', r1, r2, r3, _⟩ := run_append_own w base t ty e i z 1 B ht g1 g2 g3 g4 (by rw [h1]; rfl) (by omega) v n xs hown a m c news (by omega) hnews hc (by simp only [maxLen]; omega)
    (Nat.le_trans (Nat.mul_le_mul hn hB) (by omega)) hb
  exact ⟨v', w', r1, r2, r3⟩
theorem run_app_none {t e : Nat} {z : Value} {B : Nat} (ht : Tryz.prog.underlying t = some (.slice e)) (hi : (Tryz.prog.info? e).map (fun i => (i.zero, i.size, i.bytes)) = some (some z, 1, B))
    (base : Nat) (v : Value) (n : Nat) (xs : List Value) (w : World) (hown : w.ownsRow base e 1 v n xs) (ty : Nat) :
    (Builtin.append_ #[t, t] ty #[v, .slice none 0 0]).run Tryz.prog w = .ok v w := by
  obtain ⟨i, g1, g2, g3, g4⟩ := info_parts hi
  exact run_append_owned_none w base t ty e i 1 ht g1 v n xs hown

/-- append at the walk: whatever the run is known to be. -/
theorem wpl_run2 {ops : Array Oper} {rest : List Oper} {o : Oper} {a : Act} {Q : Exit → Act → World → Prop} {w w' : World} {v' : Value} (hgd : o.guard = none) (s x : Operand) (t : TypeId)
    (ho : o.op = .call { callee := .builtin .append, args := #[s, x], argTypes := #[t, t] }) (v xv : Value) (hs : a.eval s = v) (hx : a.eval x = xv)
    (hr : (Builtin.append_ #[t, t] o.type #[v, xv]).run Tryz.prog w = .ok v' w') (h : wpList Tryz.prog ops Q rest (a.put o.dst v') w') : wpList Tryz.prog ops Q (o :: rest) a w := by
  refine wpList_plain hgd fun K hK => ?_
  unfold Oper.wp execOp
  simp only [ho, resolve, invoke, builtin, Sem.run_bind, Sem.run_pure, Result.andThen_ok, List.map_toArray, List.map_cons, List.map_nil, hs, hx, hr]
  exact hK _ _ h

theorem SliceB.ofOwns {w : World} {base n : Nat} {v : Value} {B : List Nat} (h : w.ownsRow base 5 1 v n (B.map u8)) :
    SliceB w v B ∧ ∀ b o n c, v = sl b o n c → base ≤ b ∧ b < w.heap.size := by
  obtain ⟨h1, h2⟩ := h
  rw [List.length_map, Nat.mul_one] at h1
  subst h1
  rcases h2 with ⟨rfl, h0⟩ | ⟨g, cap, cur, rfl, hb, hg, hc, _, hs, ht⟩
  · exact ⟨.inl ⟨rfl, List.eq_nil_of_length_eq_zero h0⟩, by intro b o n c e; cases e⟩
  · refine ⟨.inr (.inr ⟨g, 0, cap, rfl, hc, ?_⟩), ?_⟩
    · intro i hi
      rw [Nat.zero_add, cell_of_row w g i cur 5 (0, 0) hg]
      rw [Nat.mul_one] at ht
      have : (cur.toList.take B.length)[i]? = some (u8 (nth B i)) := by rw [ht, map_get hi]
      rw [List.getElem?_take, if_pos hi] at this
      simpa using this
    · intro b o n c e
      simp only [Value.slice.injEq, Option.some.injEq, Addr.mk.injEq] at e
      obtain ⟨⟨rfl, _⟩, _⟩ := e
      refine ⟨hb, ?_⟩
      rcases Nat.lt_or_ge g w.heap.size with h' | h'
      · exact h'
      · rw [Array.getElem?_eq_none h'] at hg; cases hg

set_option maxRecDepth 100000 in
theorem c_copied (v : Value) (B : List Nat) (w : World) (hb : SliceB w v B) (hbig : B.length ≤ 100000) :
    Calls Tryz.prog 20 #[v] w fun e w' => ∃ v', e = .returned v' ∧ Mod [] w w' ∧ SliceB w' v' B ∧ ∀ b o n c, v' = sl b o n c → w.heap.size ≤ b ∧ b < w'.heap.size := by
  rcases hb with ⟨rfl, rfl⟩ | ⟨x, c, rfl, rfl⟩ | ⟨b, o, c, rfl, hc, hb⟩
  · have hr := fun ty => run_app_none Tryz.underlying23 info_u8 w.heap.size (.slice none 0 0) 0 [] w (World.ownsRow_nil _ _ _ _) ty
    go_enter Tryz.func20, Tryz.ntmps20
    go_wp2_with fail
    go_ret
    exact ⟨_, rfl, Mod.refl _ _, .inl ⟨rfl, rfl⟩, by intro b o n c e; cases e⟩
  · obtain ⟨v', w', hr, hown, hgr⟩ := run_app (z := .int .u8 0) rfl Tryz.underlying23 info_u8 (by omega) w.heap.size (.slice none 0 0) 0 [] w (World.ownsRow_nil _ _ _ _) x c [] 0 rfl (by intro j u hj; simp at hj) (by simp) (by omega) (Nat.le_refl _) 23
    rw [List.nil_append] at hown
    obtain ⟨s1, s2⟩ := SliceB.ofOwns (B := []) hown
    have hm : Mod [] w w' := Mod.grown hgr (by intro k hk; cases hk)
    go_enter Tryz.func20, Tryz.ntmps20
    go_wp2_with (at_builtin; refine wpl_run2 rfl _ _ _ rfl _ _ rfl rfl hr ?_)
    go_ret
    exact ⟨v', rfl, hm, s1, s2⟩
  · obtain ⟨v', w', hr, hown, hgr⟩ := run_app (z := .int .u8 0) rfl Tryz.underlying23 info_u8 (by omega) w.heap.size (.slice none 0 0) 0 [] w (World.ownsRow_nil _ _ _ _) ⟨b, o, none⟩ c (B.map u8) B.length (by simp)
      (by
        intro j u hj
        have hjl : j < B.length := by simpa using (List.getElem?_eq_some_iff.1 hj).1
        rw [map_get hjl] at hj
        rw [add_addr, hb j hjl]
        exact hj) (oneCell_map u8 (fun _ => rfl) B) (by omega) (Nat.le_refl _) 23
    rw [List.nil_append] at hown
    obtain ⟨s1, s2⟩ := SliceB.ofOwns hown
    have hm : Mod [] w w' := Mod.grown hgr (by intro k hk; cases hk)
    go_enter Tryz.func20, Tryz.ntmps20
    go_wp2_with (at_builtin; refine wpl_run2 rfl _ _ _ rfl _ _ rfl rfl hr ?_)
    go_ret
    exact ⟨v', rfl, hm, s1, s2⟩
end Go.Proofs.YtkhopfobjijnlaaGreatDoor
namespace Go.Proofs.YtkhopfobjijnlaaGreatDoor
open Go.RowKit

/-- Block k is a PublicKey: the modulus' block, the exponent. -/
abbrev PHead (w : World) (k m : Nat) (e : Int) : Prop := Blk w k 77 [ptr m, .int .i64 e]
theorem PHead.c0 {w : World} {k m : Nat} {e : Int} (h : PHead w k m e) : w.cell? ⟨k, 0, none⟩ = some (ptr m) := by rw [Blk.cell h]; rfl
theorem PHead.c1 {w : World} {k m : Nat} {e : Int} (h : PHead w k m e) : w.cell? ⟨k, 1, none⟩ = some (.int .i64 e) := by rw [Blk.cell h]; rfl

set_option maxRecDepth 100000 in
theorem c_NewPublic_small (v : Value) (ex : Int) (B : List Nat) (w : World) (hb : SliceB w v B) (hB : Bytes B) (hnew : ∀ b o n c, v = sl b o n c → b < w.heap.size) (hbig : B.length ≤ 100000) (hs : bval B ≤ 1) :
    Calls Tryz.prog 69 #[v, .int .i64 ex] w fun e w' => ∃ q, e = .returned (.tuple #[.pointer none, .iface 149 (ptr q)]) ∧ Mod [] w w' := by
  go_enter Tryz.func69, Tryz.ntmps69
  go_wp2_with fail
  refine (c_NewModulus_small v B _ hb hB hnew hbig hs).mono ?_; rintro e w1 ⟨q, rfl, m1⟩
  clear hs
  go_wp2_with fail
  go_ret2
  exact ⟨q, rfl, m1⟩

set_option maxRecDepth 100000 in
theorem c_NewPublic (v : Value) (ex : Int) (B : List Nat) (w : World) (hb : SliceB w v B) (hB : Bytes B) (hnew : ∀ b o n c, v = sl b o n c → b < w.heap.size) (hbig : B.length ≤ 100000) (hs : 1 < bval B) :
    Calls Tryz.prog 69 #[v, .int .i64 ex] w fun e w' => ∃ k m x p M R, e = .returned (.tuple #[ptr k, .nilIface]) ∧ Mod [] w w' ∧ PHead w' k m ex ∧ ModIs w' w.heap.size m x p M R ∧ val M = bval B ∧
      w.heap.size ≤ k := by
  go_enter Tryz.func69, Tryz.ntmps69
  go_wp2_with fail
  refine (c_NewModulus v B _ hb hB hnew hbig hs).mono ?_; rintro e w1 ⟨m, x, p, M, R, rfl, m1, hM, hv, g1, g2⟩
  have HV := hide hv
  have gs := m1.size
  clear hv hs
  go_wp2_with fail
  go_ret2
  refine ⟨_, m, x, p, M, R, rfl, m1.alloc _, Blk.new w1 _ [ptr m, .int .i64 ex], hM.mod ((Mod.refl [] _).alloc _), HV.out, gs⟩

theorem and_one_i64 {n : Nat} (h : n < 2 ^ 63) : bits .and .i64 (n : Int) 1 = ((n % 2 : Nat) : Int) := by
  have hx : n &&& 1 = n % 2 := Nat.and_one_is_mod n
  have h1 : (BitVec.ofInt 64 (n : Int)).toNat = n := by
    rw [BitVec.ofInt_natCast, BitVec.toNat_ofNat]; exact Nat.mod_eq_of_lt (by omega)
  have h2 : (BitVec.ofInt 64 (1 : Int)).toNat = 1 := by decide
  show IntKind.i64.wrap ((BitVec.ofInt 64 (n : Int) &&& BitVec.ofInt 64 (1 : Int)).toNat : Int) = _
  rw [BitVec.toNat_and, h1, h2, hx, IntKind.wrap_i64]
  omega

set_option maxRecDepth 100000 in
set_option maxHeartbeats 1600000 in
theorem c_check_bad (k m x p n : Nat) (ex : Int) (M R : List Nat) (w : World) (hk : PHead w k m ex) (hM : ModIs w n m x p M R) (hb : val M % 2 = 0 ∨ ex < 2 ∨ ex % 2 = 0 ∨ 2147483647 < ex) (h64 : ex < 2 ^ 63) :
    Calls Tryz.prog 102 #[ptr k] w fun e w' => ∃ q, e = .returned (.tuple #[.bool false, .iface 149 (ptr q)]) ∧ Mod [] w w' := by
  have hc0 := hk.c0
  obtain ⟨o, kk, r, hm⟩ := hM.head
  go_enter Tryz.func102, Tryz.ntmps102
  go_wp2_with fail
  refine (c_ModNat m x p kk o r M R _ hm hM.nat).mono ?_
  rintro e w1 ⟨y, q, S, rfl, m1, hy1⟩
  have hk1 : PHead w1 k m ex := Blk.mod hk m1 (by simp)
  have hM1 := hM.mod m1
  have hm1 : MHead w1 m x o kk r := Blk.mod hm m1 (by simp)
  have hc0 := hk1.c0
  have hc1 := hk1.c1
  go_wp2_with fail
  refine (c_IsOdd y q M S _ hy1 hM1.words).mono ?_; rintro e w' ⟨rfl, rfl⟩
  by_cases hev : val M % 2 = 0
  · rw [hev]
    clear hev hb
    go_wp2_with fail
    refine (c_errNew _ _).mono ?_; rintro e w2 ⟨q, rfl, m2⟩
    have m02 : Mod [] w w2 := Mod.trans (U := []) m1 m2 (by simp) (by simp)
    go_wp2_with fail
    go_ret2
    exact ⟨q, rfl, m02⟩
  · have hod : val M % 2 = 1 := by omega
    rw [hod]
    have hb3 : ex < 2 ∨ ex % 2 = 0 ∨ 2147483647 < ex := by omega
    clear hev hod hb
    obtain ⟨bl, hbl⟩ : ∃ bl, bl = blen (val M) := ⟨_, rfl⟩
    have hcases : ex < 2 ∨ (¬ ex < 2 ∧ ∃ en : Nat, ex = (en : Int) ∧ bits .and .i64 (en : Int) 1 = 0) ∨ (¬ ex < 2 ∧ ∃ en : Nat, ex = (en : Int) ∧ bits .and .i64 (en : Int) 1 = 1 ∧ 2147483647 < en) := by
      by_cases h2 : ex < 2
      · exact .inl h2
      · obtain ⟨en, rfl⟩ : ∃ en : Nat, ex = (en : Int) := ⟨ex.toNat, by omega⟩
        have ha := and_one_i64 (n := en) (by omega)
        rcases Nat.mod_two_eq_zero_or_one en with he | ho
        · exact .inr (.inl ⟨h2, en, rfl, by rw [ha, he]; rfl⟩)
        · exact .inr (.inr ⟨h2, en, rfl, by rw [ha, ho]; rfl, by omega⟩)
    clear hb3 h64
    rcases hcases with h2 | ⟨h2, en, rfl, ha⟩ | ⟨h2, en, rfl, ha, hbg⟩
    · go_wp2_with fail
      refine (c_BitLen m x p kk o r M R _ hm1 hM1.nat hM1.words).mono ?_; rintro e w' ⟨rfl, rfl⟩
      rw [← hbl]
      go_wp2_with fail
      all_goals
        refine (c_BitLen m x p kk o r M R _ hm1 hM1.nat hM1.words).mono ?_; rintro e w' ⟨rfl, rfl⟩
        rw [← hbl]
      all_goals go_wp2_with fail
      all_goals
        refine (c_errNew _ _).mono ?_; rintro e w2 ⟨q, rfl, m2⟩
        have m02 : Mod [] w w2 := Mod.trans (U := []) m1 m2 (by simp) (by simp)
        go_wp2_with fail
        go_ret2
        exact ⟨q, rfl, m02⟩
    · go_wp2_with fail
      refine (c_BitLen m x p kk o r M R _ hm1 hM1.nat hM1.words).mono ?_; rintro e w' ⟨rfl, rfl⟩
      rw [← hbl]
      go_wp2_with fail
      all_goals
        refine (c_BitLen m x p kk o r M R _ hm1 hM1.nat hM1.words).mono ?_; rintro e w' ⟨rfl, rfl⟩
        rw [← hbl]
      all_goals go_wp2_with fail
      all_goals
        refine (c_errNew _ _).mono ?_; rintro e w2 ⟨q, rfl, m2⟩
        have m02 : Mod [] w w2 := Mod.trans (U := []) m1 m2 (by simp) (by simp)
        go_wp2_with fail
        go_ret2
        exact ⟨q, rfl, m02⟩
    · have hb1 : (2147483647 : Int) < (en : Int) := by omega
      have hb2 : ¬ (en : Int) ≤ 65536 := by omega
      go_wp2_with fail
      refine (c_BitLen m x p kk o r M R _ hm1 hM1.nat hM1.words).mono ?_; rintro e w' ⟨rfl, rfl⟩
      rw [← hbl]
      go_wp2_with fail
      all_goals
        refine (c_BitLen m x p kk o r M R _ hm1 hM1.nat hM1.words).mono ?_; rintro e w' ⟨rfl, rfl⟩
        rw [← hbl]
      all_goals go_wp2_with fail
      all_goals
        refine (c_errNew _ _).mono ?_; rintro e w2 ⟨q, rfl, m2⟩
        have m02 : Mod [] w w2 := Mod.trans (U := []) m1 m2 (by simp) (by simp)
        go_wp2_with fail
        go_ret2
        exact ⟨q, rfl, m02⟩

set_option maxRecDepth 100000 in
set_option maxHeartbeats 1600000 in
theorem c_check_good (k m x p n en : Nat) (M R : List Nat) (w : World) (hk : PHead w k m (en : Int)) (hM : ModIs w n m x p M R) (hb : val M % 2 = 1) (h2 : 2 ≤ en) (ho : en % 2 = 1) (hl : en ≤ 2147483647) :
    Calls Tryz.prog 102 #[ptr k] w fun e w' => ∃ f, e = .returned (.tuple #[.bool f, .nilIface]) ∧ Mod [] w w' := by
  have hc0 := hk.c0
  obtain ⟨o, kk, r, hm⟩ := hM.head
  have ha := and_one_i64 (n := en) (by omega)
  rw [ho] at ha
  have h2' : ¬ (en : Int) < 2 := by omega
  have hl' : ¬ (2147483647 : Int) < (en : Int) := by omega
  clear ho h2 hl
  go_enter Tryz.func102, Tryz.ntmps102
  go_wp2_with fail
  refine (c_ModNat m x p kk o r M R _ hm hM.nat).mono ?_
  rintro e w1 ⟨y, q, S, rfl, m1, hy1⟩
  have hk1 : PHead w1 k m en := Blk.mod hk m1 (by simp)
  have hM1 := hM.mod m1
  have hm1 : MHead w1 m x o kk r := Blk.mod hm m1 (by simp)
  have hc0 := hk1.c0
  have hc1 := hk1.c1
  go_wp2_with fail
  refine (c_IsOdd y q M S _ hy1 hM1.words).mono ?_; rintro e w' ⟨rfl, rfl⟩
  rw [hb]
  clear hb
  obtain ⟨bl, hbl⟩ : ∃ bl, bl = blen (val M) := ⟨_, rfl⟩
  go_wp2_with fail
  refine (c_BitLen m x p kk o r M R _ hm1 hM1.nat hM1.words).mono ?_; rintro e w' ⟨rfl, rfl⟩
  rw [← hbl]
  go_wp2_with fail
  all_goals
    refine (c_BitLen m x p kk o r M R _ hm1 hM1.nat hM1.words).mono ?_; rintro e w' ⟨rfl, rfl⟩
    rw [← hbl]
  all_goals go_wp2_with fail
  all_goals go_ret2
  all_goals exact ⟨_, rfl, m1⟩

set_option maxRecDepth 100000 in
theorem c_ZZCheck_bad (k m x p n : Nat) (ex : Int) (M R : List Nat) (w : World) (hk : PHead w k m ex) (hM : ModIs w n m x p M R) (hb : val M % 2 = 0 ∨ ex < 2 ∨ ex % 2 = 0 ∨ 2147483647 < ex) (h64 : ex < 2 ^ 63) :
    Calls Tryz.prog 70 #[ptr k] w fun e w' => ∃ q, e = .returned (.iface 149 (ptr q)) ∧ Mod [] w w' := by
  go_enter Tryz.func70, Tryz.ntmps70
  go_wp2_with fail
  refine (c_check_bad k m x p n ex M R w hk hM hb h64).mono ?_; rintro e w1 ⟨q, rfl, m1⟩
  clear hb h64
  go_wp2_with fail
  go_ret
  exact ⟨q, rfl, m1⟩

set_option maxRecDepth 100000 in
theorem c_ZZCheck_good (k m x p n en : Nat) (M R : List Nat) (w : World) (hk : PHead w k m (en : Int)) (hM : ModIs w n m x p M R) (hb : val M % 2 = 1) (h2 : 2 ≤ en) (ho : en % 2 = 1) (hl : en ≤ 2147483647) :
    Calls Tryz.prog 70 #[ptr k] w fun e w' => e = .returned .nilIface ∧ Mod [] w w' := by
  go_enter Tryz.func70, Tryz.ntmps70
  go_wp2_with fail
  refine (c_check_good k m x p n en M R w hk hM hb h2 ho hl).mono ?_; rintro e w1 ⟨f, rfl, m1⟩
  clear hb h2 ho hl
  go_wp2_with fail
  go_ret
  exact ⟨rfl, m1⟩

end Go.Proofs.YtkhopfobjijnlaaGreatDoor
namespace Go.Proofs.YtkhopfobjijnlaaGreatDoor
open Go.RowKit

/-- The keys that the program takes. -/
def keyOk (N : Nat) (e : Int) : Bool := decide (1 < N) && decide (N % 2 = 1) && decide (3 ≤ e) && decide (e < 2147483648) && decide (e % 2 = 1)

theorem SliceB.lit {w : World} {v : Value} {B : List Nat} (h : SliceB w v B) : ∃ a c, v = .slice a B.length c := by
  rcases h with ⟨rfl, rfl⟩ | ⟨a, c, rfl, rfl⟩ | ⟨b, o, c, rfl, hc, hb⟩
  · exact ⟨_, _, rfl⟩
  · exact ⟨_, _, rfl⟩
  · exact ⟨_, _, rfl⟩

set_option maxRecDepth 100000 in
set_option maxHeartbeats 1600000 in
theorem c_public_bad (v : Value) (ex : Int) (B : List Nat) (w : World) (hb : SliceB w v B) (hB : Bytes B) (hbig : B.length ≤ 512) (h64 : ex < 2 ^ 63) (hk : keyOk (bval B) ex = false) :
    Calls Tryz.prog 43 #[v, .int .i64 ex] w fun e w' => e = .returned (.tuple #[.pointer none, .bool false]) ∧ Mod [] w w' := by
  obtain ⟨a, c, hv⟩ := hb.lit
  have C := hide (c_copied v B w hb (by omega))
  rw [hv] at C ⊢
  have hl : ¬ (512 : Int) < (B.length : Int) := by omega
  have HB := hide hbig
  have HK := hide hk
  have H64 := hide h64
  clear hbig hk h64
  go_enter Tryz.func43, Tryz.ntmps43
  go_wp2_with fail
  refine C.out.mono ?_
  rintro e w1 ⟨v', rfl, m1, s1, s2⟩
  go_wp2_with fail
  by_cases hs : bval B ≤ 1
  · refine (c_NewPublic_small v' ex B _ s1 hB (fun b o n c h => (s2 b o n c h).2) (by have := HB.out; omega) hs).mono ?_
    rintro e w2 ⟨q, rfl, m2⟩
    have m12 : Mod [] w w2 := Mod.trans (U := []) m1 m2 (by simp) (by simp)
    clear hs
    go_wp2_with fail
    go_ret2
    exact ⟨rfl, m12⟩
  · refine (c_NewPublic v' ex B _ s1 hB (fun b o n c h => (s2 b o n c h).2) (by have := HB.out; omega) (by omega)).mono ?_
    rintro e w2 ⟨k, m, x, p, M, R, rfl, m2, hk, hM, hv, g⟩
    have m12 : Mod [] w w2 := Mod.trans (U := []) m1 m2 (by simp) (by simp)
    have HV := hide hv
    have HS := hide hs
    clear hv hs
    go_wp2_with fail
    have hbad : val M % 2 = 0 ∨ ex < 2 ∨ ex % 2 = 0 ∨ 2147483647 < ex := by
      have h1 := HK.out
      have h2 := HS.out
      rw [HV.out]
      simp only [keyOk, Bool.and_eq_false_iff, decide_eq_false_iff_not] at h1
      omega
    refine (c_ZZCheck_bad k m x p _ ex M R _ hk hM hbad H64.out).mono ?_
    rintro e w3 ⟨q, rfl, m3⟩
    have m13 : Mod [] w w3 := Mod.trans (U := []) m12 m3 (by simp) (by simp)
    clear hbad
    go_wp2_with fail
    go_ret2
    exact ⟨rfl, m13⟩

set_option maxRecDepth 100000 in
set_option maxHeartbeats 1600000 in
theorem c_public_good (v : Value) (en : Nat) (B : List Nat) (w : World) (hb : SliceB w v B) (hB : Bytes B) (hbig : B.length ≤ 512) (hk : keyOk (bval B) (en : Int) = true) :
    Calls Tryz.prog 43 #[v, .int .i64 (en : Int)] w fun e w' => ∃ k m x p M R, e = .returned (.tuple #[ptr k, .bool true]) ∧ Mod [] w w' ∧ PHead w' k m (en : Int) ∧ ModIs w' w.heap.size m x p M R ∧ val M = bval B ∧ w.heap.size ≤ k := by
  obtain ⟨a, c, hv⟩ := hb.lit
  have C := hide (c_copied v B w hb (by omega))
  rw [hv] at C ⊢
  have hl : ¬ (512 : Int) < (B.length : Int) := by omega
  have HB := hide hbig
  have HK : Hid (1 < bval B ∧ bval B % 2 = 1 ∧ 3 ≤ en ∧ en < 2147483648 ∧ en % 2 = 1) := by
    refine hide ?_
    simp only [keyOk, Bool.and_eq_true, decide_eq_true_eq] at hk
    omega
  clear hbig hk
  go_enter Tryz.func43, Tryz.ntmps43
  go_wp2_with fail
  refine C.out.mono ?_
  rintro e w1 ⟨v', rfl, m1, s1, s2⟩
  go_wp2_with fail
  refine (c_NewPublic v' en B _ s1 hB (fun b o n c h => (s2 b o n c h).2) (by have := HB.out; omega) HK.out.1).mono ?_
  rintro e w2 ⟨k, m, x, p, M, R, rfl, m2, hk, hM, hv, g⟩
  have m12 : Mod [] w w2 := Mod.trans (U := []) m1 m2 (by simp) (by simp)
  have HV := hide hv
  clear hv
  go_wp2_with fail
  refine (c_ZZCheck_good k m x p _ en M R _ hk hM (by rw [HV.out]; exact HK.out.2.1) (by have := HK.out; omega) (by have := HK.out; omega) (by have := HK.out; omega)).mono ?_
  rintro e w3 ⟨rfl, m3⟩
  have m13 : Mod [] w w3 := Mod.trans (U := []) m12 m3 (by simp) (by simp)
  have gs := m1.size
  have hM3 := (hM.mod m3).mono gs
  have hk3 : PHead w3 k m en := Blk.mod hk m3 (by simp)
  go_wp2_with fail
  go_ret2
  exact ⟨k, m, x, p, M, R, rfl, m13, hk3, hM3, HV.out, by omega⟩

set_option maxRecDepth 100000 in
theorem c_Taken (v : Value) (ex : Int) (B : List Nat) (w : World) (hb : SliceB w v B) (hB : Bytes B) (hbig : B.length ≤ 512) (h64 : ex < 2 ^ 63) :
    Calls Tryz.prog 22 #[v, .int .i64 ex] w fun e w' => e = .returned (.bool (keyOk (bval B) ex)) ∧ Mod [] w w' := by
  cases hk : keyOk (bval B) ex
  · have C := hide (c_public_bad v ex B w hb hB hbig h64 hk)
    clear hk h64 hbig
    go_enter Tryz.func22, Tryz.ntmps22
    go_wp2_with fail
    refine C.out.mono ?_
    rintro e w1 ⟨rfl, m1⟩
    go_wp2_with fail
    go_ret
    exact ⟨rfl, m1⟩
  · obtain ⟨en, rfl⟩ : ∃ en : Nat, ex = (en : Int) := by
      simp only [keyOk, Bool.and_eq_true, decide_eq_true_eq] at hk
      exact ⟨ex.toNat, by omega⟩
    have C := hide (c_public_good v en B w hb hB hbig hk)
    clear hk h64 hbig
    go_enter Tryz.func22, Tryz.ntmps22
    go_wp2_with fail
    refine C.out.mono ?_
    rintro e w1 ⟨k, m, x, p, M, R, rfl, m1, _⟩
    go_wp2_with fail
    go_ret
    exact ⟨rfl, m1⟩
end Go.Proofs.YtkhopfobjijnlaaGreatDoor
