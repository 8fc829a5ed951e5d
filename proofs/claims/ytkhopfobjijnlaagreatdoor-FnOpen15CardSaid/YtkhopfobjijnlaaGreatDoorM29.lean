/- bigmod's numbers and moduli by their values alone. bigmod's numbers and moduli by their values alone: the calls. -/
import Derived.Test.YtkhopfobjijnlaaGreatDoorM26
import Derived.Test.YtkhopfobjijnlaaGreatDoorM28
set_option linter.all false
set_option exponentiation.threshold 7000000
namespace Go.Proofs.YtkhopfobjijnlaaGreatDoor
open Go.RowKit

/-- How many words a modulus has. -/
def wlen (v : Nat) : Nat := (blen v + 63) / 64
/-- A number of n words with the value v, its blocks from g on. -/
def NumAt (w : World) (g x n v : Nat) : Prop := ∃ p L R, NatIs w x p L R ∧ g ≤ x ∧ g ≤ p ∧ L.length = n ∧ Words L ∧ val L = v
/-- A modulus of the value v. -/
def MdAt (w : World) (m v : Nat) : Prop := ∃ n y q M Q, ModIs w n m y q M Q ∧ val M = v
/-- Bytes that lie in the world, the highest first. -/
def GotB (w : World) (v : Value) (B : List Nat) : Prop := SliceB w v B ∧ Bytes B ∧ ∀ b o n c, v = sl b o n c → b < w.heap.size
/-- Two numbers that have no block in common. -/
def Sep (w : World) (a b : Nat) : Prop := ∀ p L R q M S, NatIs w a p L R → NatIs w b q M S → a ≠ b ∧ p ≠ q
/-- A number that has no block in common with a modulus' own number. -/
def MSep (w : World) (o m : Nat) : Prop := ∀ p L R k y q M Q, NatIs w o p L R → ModIs w k m y q M Q → y ≠ o ∧ q ≠ p
/-- What becomes of the world where the number o alone is written. -/
def Fr (w w' : World) (o : Nat) : Prop := ∃ p p' L R L' R', NatIs w o p L R ∧ NatIs w' o p' L' R' ∧ Mod [o, p] w w' ∧ Kept w p p'
/-- Bytes that lie apart from a number. -/
def ApartN (w : World) (v : Value) (x : Nat) : Prop := ∀ p L R, NatIs w x p L R → Apart v x ∧ Apart v p

theorem NatIs.same {w : World} {x p q : Nat} {L R M S : List Nat} (h : NatIs w x p L R) (h' : NatIs w x q M S) : p = q := by
  have h1 := h.cell
  rw [h'.cell] at h1
  simp only [Option.some.injEq, sl, Value.slice.injEq, Addr.mk.injEq] at h1
  exact h1.1.1.symm
theorem ModIs.same {w : World} {k k' m y y' q q' : Nat} {M M' Q Q' : List Nat} (h : ModIs w k m y q M Q) (h' : ModIs w k' m y' q' M' Q') : y = y' ∧ q = q' := by
  obtain ⟨o, kk, r, hh⟩ := h.head
  obtain ⟨o', kk', r', hh'⟩ := h'.head
  have h1 := hh.c0
  rw [hh'.c0] at h1
  simp only [Option.some.injEq, ptr, Value.pointer.injEq, Addr.mk.injEq] at h1
  obtain rfl := h1.1
  exact ⟨rfl, h.nat.same h'.nat⟩
theorem ModIs.wlen {w : World} {k m y q : Nat} {M Q : List Nat} (h : ModIs w k m y q M Q) : M.length = wlen (val M) := by
  have hp := len_pos h.big
  have ht := h.top (by omega)
  rw [Go.Proofs.YtkhopfobjijnlaaGreatDoor.wlen, blen_top h.words hp ht]
  have h1 := blen_word_le (h.words.nth (M.length - 1))
  have h2 := blen_pos ht
  omega
theorem MdAt.pos {w : World} {m v : Nat} (h : MdAt w m v) : 0 < wlen v ∧ 1 < v ∧ wlen v ≤ 20000 := by
  obtain ⟨n, y, q, M, Q, hM, rfl⟩ := h
  rw [← hM.wlen]
  exact ⟨len_pos hM.big, hM.big, hM.room⟩
theorem NumAt.lt {w : World} {g x n v : Nat} (h : NumAt w g x n v) : v < W ^ n := by
  obtain ⟨p, L, R, hx, g1, g2, l, wL, rfl⟩ := h
  rw [← l]; exact val_lt wL
theorem NumAt.xlt {w : World} {g x n v : Nat} (h : NumAt w g x n v) : g ≤ x ∧ x < w.heap.size := by
  obtain ⟨p, L, R, hx, g1, g2, l, wL, rfl⟩ := h
  exact ⟨g1, hx.xlt⟩
theorem NumAt.mono {w : World} {g g' x n v : Nat} (h : NumAt w g x n v) (hg : g' ≤ g) : NumAt w g' x n v := by
  obtain ⟨p, L, R, hx, g1, g2, r⟩ := h
  exact ⟨p, L, R, hx, by omega, by omega, r⟩
theorem NumAt.mod {w w' : World} {g x n v : Nat} (h : NumAt w g x n v) (m : Mod [] w w') : NumAt w' g x n v := by
  obtain ⟨p, L, R, hx, r⟩ := h
  exact ⟨p, L, R, hx.mod m (by simp) (by simp), r⟩
theorem MdAt.mod {w w' : World} {m v : Nat} (h : MdAt w m v) (hm : Mod [] w w') : MdAt w' m v := by
  obtain ⟨n, y, q, M, Q, hM, r⟩ := h
  exact ⟨n, y, q, M, Q, hM.mod hm, r⟩
theorem GotB.mod {w w' : World} {v : Value} {B : List Nat} (h : GotB w v B) (m : Mod [] w w') : GotB w' v B :=
  ⟨h.1.mod m (by simp), h.2.1, fun b o n c e => Nat.lt_of_lt_of_le (h.2.2 b o n c e) m.size⟩
theorem Sep.symm {w : World} {a b : Nat} (h : Sep w a b) : Sep w b a := fun p L R q M S h1 h2 => ⟨(h _ _ _ _ _ _ h2 h1).1.symm, (h _ _ _ _ _ _ h2 h1).2.symm⟩
theorem Sep.mod {w w' : World} {a b ga gb na nb va vb : Nat} (s : Sep w a b) (ha : NumAt w ga a na va) (hb : NumAt w gb b nb vb) (m : Mod [] w w') : Sep w' a b := by
  obtain ⟨p, L, R, hx, r⟩ := ha
  obtain ⟨q, M, S, hy, r'⟩ := hb
  intro p1 L1 R1 q1 M1 S1 h1 h2
  have e1 := h1.same (hx.mod m (by simp) (by simp))
  have e2 := h2.same (hy.mod m (by simp) (by simp))
  subst e1 e2
  exact s _ _ _ _ _ _ hx hy
/-- A number that is newer than another one. -/
theorem Sep.new {w w' : World} {a b ga na nb va vb : Nat} (ha : NumAt w ga a na va) (m : Mod [] w w') (hb : NumAt w' w.heap.size b nb vb) : Sep w' a b := by
  obtain ⟨p, L, R, hx, r⟩ := ha
  obtain ⟨q, M, S, hy, g1, g2, r'⟩ := hb
  intro p1 L1 R1 q1 M1 S1 h1 h2
  have e1 := h1.same (hx.mod m (by simp) (by simp))
  have e2 := h2.same hy
  subst e1 e2
  have := hx.xlt
  have := hx.plt
  exact ⟨by omega, by omega⟩
theorem MSep.base {wg w : World} {o m n v mv : Nat} (h0 : Mod [] wg w) (hm : MdAt wg m mv) (ho : NumAt w wg.heap.size o n v) : MSep w o m := by
  obtain ⟨k, y, q, M, Q, hM, r⟩ := hm
  obtain ⟨p, L, R, hx, g1, g2, r'⟩ := ho
  intro p1 L1 R1 k1 y1 q1 M1 Q1 h1 h2
  have e1 := h1.same hx
  have e2 := h2.same (hM.mod h0)
  obtain ⟨rfl, rfl⟩ := e2
  subst e1
  have := hM.nat.xlt
  have := hM.nat.plt
  exact ⟨by omega, by omega⟩
theorem Fr.trans {w w1 w2 : World} {o : Nat} (a : Fr w w1 o) (b : Fr w1 w2 o) : Fr w w2 o := by
  obtain ⟨p, p1, L, R, L1, R1, h, h1, m, k⟩ := a
  obtain ⟨q, p2, M, S, L2, R2, h1', h2, m2, k2⟩ := b
  have e := h1'.same h1
  subst e
  have hs := m.size
  refine ⟨p, p2, L, R, L2, R2, h, h2, Mod.trans (U := [o, p]) m m2 (fun a ha _ => ha) (fun a ha hl => ?_), ?_⟩
  · rcases k with e | e
    · rw [← e]; exact ha
    · simp at ha; rcases ha with rfl | rfl
      · simp
      · omega
  · rcases k2 with e | e
    · rw [e]; exact k
    · exact .inr (by omega)
theorem Fr.num {w w' : World} {o z g n v : Nat} (f : Fr w w' o) (s : Sep w o z) (h : NumAt w g z n v) : NumAt w' g z n v := by
  obtain ⟨p, p1, L, R, L1, R1, h1, h2, m, k⟩ := f
  obtain ⟨q, M, S, hz, r⟩ := h
  have d := s _ _ _ _ _ _ h1 hz
  exact ⟨q, M, S, hz.mod m (by simp; exact ⟨d.1.symm, hz.head.ne h1.row (by decide)⟩) (by simp; exact ⟨hz.row.ne h1.head (by decide), d.2.symm⟩), r⟩
theorem Fr.sep {w w' : World} {o z g n v : Nat} (f : Fr w w' o) (s : Sep w o z) (h : NumAt w g z n v) : Sep w' o z := by
  have hz' := f.num s h
  obtain ⟨p, p1, L, R, L1, R1, h1, h2, m, k⟩ := f
  obtain ⟨q, M, S, hz, r⟩ := h
  have d := s _ _ _ _ _ _ h1 hz
  have hzm := hz.mod m (by simp; exact ⟨d.1.symm, hz.head.ne h1.row (by decide)⟩) (by simp; exact ⟨hz.row.ne h1.head (by decide), d.2.symm⟩)
  intro a L2 R2 b M2 S2 h3 h4
  have e1 := h3.same h2
  have e2 := h4.same hzm
  subst e1 e2
  have := hz.plt
  refine ⟨d.1, ?_⟩
  rcases k with e | e
  · rw [e]; exact d.2
  · omega
theorem Fr.sep2 {w w' : World} {o a b ga gb na nb va vb : Nat} (f : Fr w w' o) (sa : Sep w o a) (sb : Sep w o b) (s : Sep w a b) (ha : NumAt w ga a na va) (hb : NumAt w gb b nb vb) : Sep w' a b := by
  obtain ⟨p, p1, L, R, L1, R1, h1, h2, m, k⟩ := f
  obtain ⟨q, M, S, hx, r⟩ := ha
  obtain ⟨q', M', S', hy, r'⟩ := hb
  have d := sa _ _ _ _ _ _ h1 hx
  have d' := sb _ _ _ _ _ _ h1 hy
  have hxm := hx.mod m (by simp; exact ⟨d.1.symm, hx.head.ne h1.row (by decide)⟩) (by simp; exact ⟨hx.row.ne h1.head (by decide), d.2.symm⟩)
  have hym := hy.mod m (by simp; exact ⟨d'.1.symm, hy.head.ne h1.row (by decide)⟩) (by simp; exact ⟨hy.row.ne h1.head (by decide), d'.2.symm⟩)
  intro a1 L2 R2 b1 M2 S2 h3 h4
  have e1 := h3.same hxm
  have e2 := h4.same hym
  subst e1 e2
  exact s _ _ _ _ _ _ hx hy
theorem Fr.back {wg w w' : World} {o n v : Nat} (f : Fr w w' o) (h0 : Mod [] wg w) (ho : NumAt w wg.heap.size o n v) : Mod [] wg w' := by
  obtain ⟨p, p1, L, R, L1, R1, h1, h2, m, k⟩ := f
  obtain ⟨q, M, S, hx, g1, g2, r⟩ := ho
  have e := hx.same h1
  subst e
  exact h0.keep2 m g1 g2
theorem Fr.mdE {w w' : World} {o m mv : Nat} (f : Fr w w' o) (s : MSep w o m) (hm : MdAt w m mv) (he : mv % 2 = 0) : MdAt w' m mv := by
  obtain ⟨p, p1, L, R, L1, R1, h1, h2, md, k⟩ := f
  obtain ⟨n, y, q, M, Q, hM, rfl⟩ := hm
  have d := s _ _ _ _ _ _ _ _ h1 hM
  have hh := hM.even he
  exact ⟨n, y, q, M, Q, hM.keepE he md (by simp; exact ⟨hh.ne h1.head (by decide), hh.ne h1.row (by decide)⟩) (by simp; exact ⟨d.1, hM.nat.head.ne h1.row (by decide)⟩) (by simp; exact ⟨hM.nat.row.ne h1.head (by decide), d.2⟩), rfl⟩
theorem Fr.msepE {w w' : World} {o m mv : Nat} (f : Fr w w' o) (s : MSep w o m) (hm : MdAt w m mv) (he : mv % 2 = 0) : MSep w' o m := by
  obtain ⟨p, p1, L, R, L1, R1, h1, h2, md, k⟩ := f
  obtain ⟨n, y, q, M, Q, hM, rfl⟩ := hm
  have d := s _ _ _ _ _ _ _ _ h1 hM
  have hh := hM.even he
  have hM' := hM.keepE he md (by simp; exact ⟨hh.ne h1.head (by decide), hh.ne h1.row (by decide)⟩) (by simp; exact ⟨d.1, hM.nat.head.ne h1.row (by decide)⟩) (by simp; exact ⟨hM.nat.row.ne h1.head (by decide), d.2⟩)
  intro a L2 R2 k2 y2 q2 M2 Q2 h3 h4
  have e1 := h3.same h2
  obtain ⟨rfl, rfl⟩ := h4.same hM'
  subst e1
  have := hM.nat.plt
  refine ⟨d.1, ?_⟩
  rcases k with e | e
  · rw [e]; exact d.2
  · omega
theorem ApartN.old {wg w : World} {v : Value} {B : List Nat} {x n u : Nat} (hb : GotB wg v B) (hx : NumAt w wg.heap.size x n u) : ApartN w v x := by
  obtain ⟨q, M, S, hx, g1, g2, r⟩ := hx
  intro p L R h
  have e := h.same hx
  subst e
  exact ⟨fun b o n c e => by have := hb.2.2 b o n c e; omega, fun b o n c e => by have := hb.2.2 b o n c e; omega⟩
/-- Bytes in a block of their own. -/
theorem ApartN.row {w : World} {b x : Nat} {B : List Nat} (hb : Blk w b 5 (B.map u8)) (n c : Nat) : ApartN w (sl b 0 n c) x := by
  intro p L R h
  have h1 := hb.ne h.head (by decide)
  have h2 := hb.ne h.row (by decide)
  constructor <;> (intro b' o' n' c' e; simp only [sl, Value.slice.injEq, Option.some.injEq, Addr.mk.injEq] at e; rw [← e.1.1]; assumption)
theorem lt_size {v mv : Nat} (h : v < mv) : v < 256 ^ ((blen mv + 7) / 8) := by
  have h1 := lt_two_blen mv
  have h2 : 2 ^ blen mv ≤ 2 ^ (8 * ((blen mv + 7) / 8)) := Nat.pow_le_pow_right (by omega) (by omega)
  rw [Nat.pow_mul, show (2 : Nat) ^ 8 = 256 from rfl] at h2
  omega
theorem blen_mono {a b : Nat} (h : a ≤ b) : blen a ≤ blen b := by
  have h1 := lt_two_blen b
  exact blen_le (by omega)
theorem eqB_iff (a b : Nat) : (eqB a b = 1 ↔ a = b) ∧ (a ≠ b → eqB a b = 0) := by
  unfold eqB
  by_cases h : a = b <;> simp [h]
end Go.Proofs.YtkhopfobjijnlaaGreatDoor
namespace Go.Proofs.YtkhopfobjijnlaaGreatDoor
open Go.RowKit

theorem k_New (w : World) : Calls Tryz.prog 55 #[] w fun e w' => ∃ x, e = .returned (ptr x) ∧ Mod [] w w' ∧ NumAt w' w.heap.size x 0 0 := by
  refine (c_NewNat w).mono ?_
  rintro e w' ⟨x, p, rfl, m, h, g1, g2⟩
  exact ⟨x, rfl, m, p, [], _, h, g1, g2, rfl, Words.nil, rfl⟩
theorem k_Nat (w : World) (m mv : Nat) (hm : MdAt w m mv) : Calls Tryz.prog 65 #[ptr m] w fun e w' => ∃ x, e = .returned (ptr x) ∧ Mod [] w w' ∧ NumAt w' w.heap.size x (wlen mv) mv := by
  obtain ⟨n, y, q, M, Q, hM, rfl⟩ := hm
  refine (c_ModNat2 w w n m y q M Q (Mod.refl _ _) hM).mono ?_
  rintro e w' ⟨x, p, R, rfl, m, h, g1, g2⟩
  exact ⟨x, rfl, m, p, M, R, h, g1, g2, hM.wlen, hM.words, rfl⟩
theorem k_Expand (w : World) (g x n v m mv : Nat) (hx : NumAt w g x n v) (hm : MdAt w m mv) (hn : n ≤ wlen mv) :
    Calls Tryz.prog 64 #[ptr x, ptr m] w fun e w' => e = .returned (ptr x) ∧ Fr w w' x ∧ (g ≤ w.heap.size → NumAt w' g x (wlen mv) v) := by
  obtain ⟨k, y, q, M, Q, hM, rfl⟩ := hm
  obtain ⟨p, L, R, hx, g1, g2, rfl, wL, rfl⟩ := hx
  obtain ⟨o, kk, r, hh⟩ := hM.head
  refine (c_ExpandFor x p m y q kk o r L R M Q w hx hh hM.nat (by rw [hM.wlen]; exact hn)).mono ?_
  rintro e w' ⟨p', R', rfl, m1, h1, k1⟩
  refine ⟨rfl, ⟨p, p', _, _, _, _, hx, h1, m1, k1⟩, fun hg => ⟨p', _, R', h1, g1, k1.ge g2 hg, ?_, ?_, padTo_val _ _⟩⟩
  · rw [padTo_length (by rw [hM.wlen]; exact hn), hM.wlen]
  · exact padTo_words wL _
theorem k_SetUint (w : World) (g x n v u : Nat) (hx : NumAt w g x n v) (hu : u < W) :
    Calls Tryz.prog 112 #[ptr x, u64 u] w fun e w' => e = .returned (ptr x) ∧ Fr w w' x ∧ (g ≤ w.heap.size → NumAt w' g x 1 u) := by
  obtain ⟨p, L, R, hx, g1, g2, rfl, wL, rfl⟩ := hx
  refine (c_SetUint x p u L R w hx).mono ?_
  rintro e w' ⟨p', R', rfl, m1, h1, k1⟩
  refine ⟨rfl, ⟨p, p', _, _, _, _, hx, h1, m1, k1⟩, fun hg => ⟨p', _, R', h1, g1, k1.ge g2 hg, rfl, ?_, by simp [val]⟩⟩
  exact Words.cons hu Words.nil
theorem k_Bytes (w : World) (g x n v m mv : Nat) (hx : NumAt w g x n v) (hm : MdAt w m mv) (hfit : v < 256 ^ ((blen mv + 7) / 8)) (hbl : blen mv ≤ 100000) :
    Calls Tryz.prog 60 #[ptr x, ptr m] w fun e w' => ∃ b B, e = .returned (sl b 0 B.length B.length) ∧ Mod [] w w' ∧ Blk w' b 5 (B.map u8) ∧ w.heap.size ≤ b ∧ B.length = (blen mv + 7) / 8 ∧ Bytes B ∧ bval B = v := by
  obtain ⟨k, y, q, M, Q, hM, rfl⟩ := hm
  obtain ⟨p, L, R, hx, g1, g2, rfl, wL, rfl⟩ := hx
  obtain ⟨o, kk, r, hh⟩ := hM.head
  exact c_NatBytes x p m y q kk o r L R M Q w hx hh hM.nat wL hM.words hfit hbl
theorem GotB.row {w : World} {b : Nat} {B : List Nat} (h : Blk w b 5 (B.map u8)) (hB : Bytes B) : GotB w (sl b 0 B.length B.length) B := by
  refine ⟨.inr (.inr ⟨b, 0, B.length, rfl, Nat.le_refl _, ?_⟩), hB, ?_⟩
  · intro i hi
    rw [Nat.zero_add]
    exact h.at i hi
  · intro b' o n c e
    simp only [sl, Value.slice.injEq, Option.some.injEq, Addr.mk.injEq] at e
    rw [← e.1.1]
    exact h.lt
theorem k_NewModulus (w : World) (v : Value) (B : List Nat) (hb : GotB w v B) (hl : B.length ≤ 100000) (hs : 1 < bval B) :
    Calls Tryz.prog 54 #[v] w fun e w' => ∃ m, e = .returned (.tuple #[ptr m, .nilIface]) ∧ Mod [] w w' ∧ MdAt w' m (bval B) ∧ (∀ g o n u, NumAt w g o n u → MSep w' o m) := by
  refine (c_NewModulus v B w hb.1 hb.2.1 hb.2.2 hl hs).mono ?_
  rintro e w' ⟨m, x, p, M, R, rfl, md, hM, hv, g1, g2⟩
  refine ⟨m, rfl, md, ⟨_, x, p, M, R, hM, hv⟩, ?_⟩
  rintro g o n u ⟨q, L, S, h, r⟩ q1 L1 S1 k1 y1 p1 M1 R1 h1 h2
  have e := h1.same (h.mod md (by simp) (by simp))
  obtain ⟨rfl, rfl⟩ := h2.same hM
  subst e
  have := h.xlt
  have := h.plt
  exact ⟨by omega, by omega⟩
theorem k_SetBytes (w : World) (g x n v m mv : Nat) (vb : Value) (B : List Nat) (hx : NumAt w g x n v) (hm : MdAt w m mv) (hb : GotB w vb B) (ha : ApartN w vb x) (ms : MSep w x m) (hfit : B.length ≤ 8 * wlen mv) (hn : 0 < B.length) (hlt : bval B < mv) :
    Calls Tryz.prog 56 #[ptr x, vb, ptr m] w fun e w' => e = .returned (.tuple #[ptr x, .nilIface]) ∧ Fr w w' x ∧ (g ≤ w.heap.size → NumAt w' g x (wlen mv) (bval B)) := by
  obtain ⟨k, y, q, M, Q, hM, rfl⟩ := hm
  obtain ⟨p, L, R, hx, g1, g2, rfl, wL, rfl⟩ := hx
  obtain ⟨o, kk, r, hh⟩ := hM.head
  have d := ms _ _ _ _ _ _ _ _ hx hM
  have a := ha _ _ _ hx
  refine (c_SetBytes x p m y q kk o r vb L R M Q B w hx hh hM.nat hM.words hb.1 hb.2.1 a.1 a.2 hb.2.2 (by rw [hM.wlen]; exact hfit) hn d.1 d.2 (hh.ne hx.head (by decide))).mono ?_
  rintro e w' ⟨h, -⟩
  obtain ⟨p', V, R', rfl, m1, h1, k1, bV, e1⟩ := h hlt
  exact ⟨rfl, ⟨p, p', _, _, _, _, hx, h1, m1, k1⟩, fun hg => ⟨p', _, R', h1, g1, k1.ge g2 hg, by rw [bV.len, hM.wlen], bV.words, e1⟩⟩
theorem k_SetBytes_bad (w : World) (g x n v m mv : Nat) (vb : Value) (B : List Nat) (hx : NumAt w g x n v) (hm : MdAt w m mv) (hb : GotB w vb B) (ha : ApartN w vb x) (ms : MSep w x m) (hfit : B.length ≤ 8 * wlen mv) (hn : 0 < B.length) (hlt : mv ≤ bval B) (hgx : g ≤ w.heap.size) :
    Calls Tryz.prog 56 #[ptr x, vb, ptr m] w fun e w' => ∃ er, e = .returned (.tuple #[.pointer none, .iface 149 (ptr er)]) ∧ (∀ wg, g = wg.heap.size → Mod [] wg w → Mod [] wg w') := by
  obtain ⟨k, y, q, M, Q, hM, rfl⟩ := hm
  obtain ⟨p, L, R, hx, g1, g2, rfl, wL, rfl⟩ := hx
  obtain ⟨o, kk, r, hh⟩ := hM.head
  have d := ms _ _ _ _ _ _ _ _ hx hM
  have a := ha _ _ _ hx
  refine (c_SetBytes x p m y q kk o r vb L R M Q B w hx hh hM.nat hM.words hb.1 hb.2.1 a.1 a.2 hb.2.2 (by rw [hM.wlen]; exact hfit) hn d.1 d.2 (hh.ne hx.head (by decide))).mono ?_
  rintro e w' ⟨-, h⟩
  obtain ⟨er, rfl, m1⟩ := h hlt
  exact ⟨er, rfl, fun wg e h0 => h0.keep2 m1 (by omega) (by omega)⟩
theorem k_Mod (wg w : World) (o no vo g x n v m mv : Nat) (h0 : Mod [] wg w) (hm : MdAt wg m mv) (ho : NumAt w wg.heap.size o no vo) (hx : NumAt w g x n v) (s : Sep w o x) :
    Calls Tryz.prog 61 #[ptr o, ptr x, ptr m] w fun e w' => e = .returned (ptr o) ∧ Fr w w' o ∧ Mod [] wg w' ∧ NumAt w' wg.heap.size o (wlen mv) (v % mv) := by
  obtain ⟨k, y, q, M, Q, hM, rfl⟩ := hm
  obtain ⟨po, Lo, Ro, ho, go, gpo, rfl, wo, rfl⟩ := ho
  obtain ⟨p, L, R, hx, g1, g2, rfl, wL, rfl⟩ := hx
  have d := s _ _ _ _ _ _ ho hx
  refine (c_Mod wg w k m y q o po x p M Q Lo Ro L R h0 hM ho hx wL go gpo d.1.symm d.2.symm).mono ?_
  rintro e w' ⟨p', X, R', rfl, m1, h1, k1, gp, bX, eX⟩
  exact ⟨rfl, ⟨po, p', _, _, _, _, ho, h1, m1, k1⟩, h0.keep2 m1 go gpo, p', X, R', h1, go, gp, by rw [bX.len, hM.wlen], bX.words, eX⟩
theorem k_SubOne (wg w : World) (x v m mv : Nat) (h0 : Mod [] wg w) (hm : MdAt wg m mv) (hx : NumAt w wg.heap.size x (wlen mv) v) (hv : 1 ≤ v) :
    Calls Tryz.prog 83 #[ptr x, ptr m] w fun e w' => e = .returned (ptr x) ∧ Fr w w' x ∧ Mod [] wg w' ∧ NumAt w' wg.heap.size x (wlen mv) (v - 1) := by
  obtain ⟨k, y, q, M, Q, hM, rfl⟩ := hm
  obtain ⟨p, L, R, hx, g1, g2, hl, wL, rfl⟩ := hx
  rw [← hM.wlen] at hl
  refine (c_SubOne wg w k m y q x p M Q L R h0 hM hx g1 g2 wL hl hv).mono ?_
  rintro e w' ⟨X, rfl, m1, h1, wX, lX, eX⟩
  exact ⟨rfl, ⟨p, p, _, _, _, _, hx, h1, m1.mono (by simp), .inl rfl⟩, h0.keep1 m1 g2, p, X, R, h1, g1, g2, by rw [lX, hM.wlen], wX, eX⟩
theorem k_Sub (wg w : World) (x v m mv g z u : Nat) (h0 : Mod [] wg w) (hm : MdAt wg m mv) (hx : NumAt w wg.heap.size x (wlen mv) v) (hz : NumAt w g z (wlen mv) u) (hb : u ≤ v + mv) :
    Calls Tryz.prog 62 #[ptr x, ptr z, ptr m] w fun e w' => e = .returned (ptr x) ∧ Fr w w' x ∧ Mod [] wg w' ∧ NumAt w' wg.heap.size x (wlen mv) (subV v u mv) := by
  obtain ⟨k, y, q, M, Q, hM, rfl⟩ := hm
  obtain ⟨p, L, R, hx, g1, g2, hl, wL, rfl⟩ := hx
  obtain ⟨pz, V, S, hz, g3, g4, hlz, wV, rfl⟩ := hz
  rw [← hM.wlen] at hl hlz
  refine (c_SubM wg w k m y q x p z pz M Q L R V S h0 hM hx hz g2 wL hl wV hlz hb).mono ?_
  rintro e w' ⟨X, rfl, m1, h1, wX, lX, eX⟩
  exact ⟨rfl, ⟨p, p, _, _, _, _, hx, h1, m1.mono (by simp), .inl rfl⟩, h0.keep1 m1 g2, p, X, R, h1, g1, g2, by rw [lX, hM.wlen], wX, eX⟩
theorem k_Add (wg w : World) (x v m mv g z u : Nat) (h0 : Mod [] wg w) (hm : MdAt wg m mv) (hx : NumAt w wg.heap.size x (wlen mv) v) (hz : NumAt w g z (wlen mv) u) (hv : v < mv) (hu : u < mv) :
    Calls Tryz.prog 66 #[ptr x, ptr z, ptr m] w fun e w' => e = .returned (ptr x) ∧ Fr w w' x ∧ Mod [] wg w' ∧ NumAt w' wg.heap.size x (wlen mv) ((v + u) % mv) := by
  obtain ⟨k, y, q, M, Q, hM, rfl⟩ := hm
  obtain ⟨p, L, R, hx, g1, g2, hl, wL, rfl⟩ := hx
  obtain ⟨pz, V, S, hz, g3, g4, hlz, wV, rfl⟩ := hz
  rw [← hM.wlen] at hl hlz
  have hMw := hM.mod h0
  obtain ⟨o, kk, r, hh⟩ := hMw.head
  refine (c_Add' x p z pz m y q kk o r L R V S M Q w hx hz hh hMw.nat ⟨hl, wL, hv⟩ ⟨hlz, wV, hu⟩ hM.words (by have := hM.nat.plt; omega)).mono ?_
  rintro e w' ⟨X, rfl, m1, h1, bX, eX⟩
  exact ⟨rfl, ⟨p, p, _, _, _, _, hx, h1, m1.mono (by simp), .inl rfl⟩, h0.keep1 m1 g2, p, X, R, h1, g1, g2, by rw [bX.len, hM.wlen], bX.words, eX⟩
theorem k_Mul (wg w : World) (x v m mv g z u : Nat) (h0 : Mod [] wg w) (hm : MdAt wg m mv) (ho : mv % 2 = 1) (hx : NumAt w wg.heap.size x (wlen mv) v) (hz : NumAt w g z (wlen mv) u) (hv : v < mv) :
    Calls Tryz.prog 63 #[ptr x, ptr z, ptr m] w fun e w' => e = .returned (ptr x) ∧ Fr w w' x ∧ Mod [] wg w' ∧ NumAt w' wg.heap.size x (wlen mv) (v * u % mv) := by
  obtain ⟨k, y, q, M, Q, hM, rfl⟩ := hm
  obtain ⟨p, L, R, hx, g1, g2, hl, wL, rfl⟩ := hx
  obtain ⟨pz, V, S, hz, g3, g4, hlz, wV, rfl⟩ := hz
  rw [← hM.wlen] at hl hlz
  refine (c_MulOdd wg w k m y q x p z pz M Q L R V S h0 hM ho hx hz ⟨hl, wL, hv⟩ wV hlz g1 g2).mono ?_
  rintro e w' ⟨p', X, R', rfl, m1, h1, k1, gp, bX, eX⟩
  exact ⟨rfl, ⟨p, p', _, _, _, _, hx, h1, m1, k1⟩, h0.keep2 m1 g1 g2, p', X, R', h1, g1, gp, by rw [bX.len, hM.wlen], bX.words, eX⟩
theorem k_MulE (w : World) (gx x v m mv g z u : Nat) (hm : MdAt w m mv) (he : mv % 2 = 0) (hl15 : wlen mv ≤ 15) (ms : MSep w x m) (hx : NumAt w gx x (wlen mv) v) (hz : NumAt w g z (wlen mv) u) (hv : v < mv) :
    Calls Tryz.prog 63 #[ptr x, ptr z, ptr m] w fun e w' => e = .returned (ptr x) ∧ Fr w w' x ∧ (gx ≤ w.heap.size → NumAt w' gx x (wlen mv) (v * u % mv)) := by
  obtain ⟨k, y, q, M, Q, hM, rfl⟩ := hm
  obtain ⟨p, L, R, hx, g1, g2, hl, wL, rfl⟩ := hx
  obtain ⟨pz, V, S, hz, g3, g4, hlz, wV, rfl⟩ := hz
  have d := ms _ _ _ _ _ _ _ _ hx hM
  rw [← hM.wlen] at hl hlz hl15
  refine (c_MulEvenG w k m y q x p z pz M Q L R V S hM he hl15 hx hz ⟨hl, wL, hv⟩ wV hlz d.1 d.2).mono ?_
  rintro e w' ⟨p', X, R', rfl, m1, h1, k1, bX, eX⟩
  exact ⟨rfl, ⟨p, p', _, _, _, _, hx, h1, m1, k1⟩, fun hg => ⟨p', X, R', h1, g1, k1.ge g2 hg, by rw [bX.len, hM.wlen], bX.words, eX⟩⟩
theorem k_Exp (wg w : World) (o no vo g x v m mv : Nat) (ve : Value) (E : List Nat) (h0 : Mod [] wg w) (hm : MdAt wg m mv) (ho : mv % 2 = 1) (hO : NumAt w wg.heap.size o no vo) (hx : NumAt w g x (wlen mv) v) (hv : v < mv) (he : GotB w ve E) (ha : ApartN w ve o) (lE : E.length ≤ 100000) :
    Calls Tryz.prog 59 #[ptr o, ptr x, ve, ptr m] w fun e w' => e = .returned (ptr o) ∧ Fr w w' o ∧ Mod [] wg w' ∧ NumAt w' wg.heap.size o (wlen mv) (v ^ bval E % mv) := by
  obtain ⟨k, y, q, M, Q, hM, rfl⟩ := hm
  obtain ⟨po, Lo, Ro, hO, g1, g2, rfl, wo, rfl⟩ := hO
  obtain ⟨p, L, R, hx, g3, g4, hl, wL, rfl⟩ := hx
  rw [← hM.wlen] at hl
  have a := ha _ _ _ hO
  refine (c_Exp wg w k m y q o po x p ve M Q Lo Ro L R E h0 hM ho hO hx ⟨hl, wL, hv⟩ he.1 he.2.1 a.1 a.2 he.2.2 g1 g2 lE).mono ?_
  rintro e w' ⟨p', X, R', rfl, m1, h1, k1, gp, bX, eX⟩
  exact ⟨rfl, ⟨po, p', _, _, _, _, hO, h1, m1, k1⟩, h0.keep2 m1 g1 g2, p', X, R', h1, g1, gp, by rw [bX.len, hM.wlen], bX.words, eX⟩
theorem k_IsZero (w : World) (g x n v : Nat) (hx : NumAt w g x n v) : Calls Tryz.prog 106 #[ptr x] w fun e w' => e = .returned (u64 (eqB v 0)) ∧ w = w' := by
  obtain ⟨p, L, R, hx, g1, g2, hl, wL, rfl⟩ := hx
  exact c_IsZero x p L R w hx
theorem k_IsOne (w : World) (g x n v : Nat) (hx : NumAt w g x n v) : Calls Tryz.prog 107 #[ptr x] w fun e w' => e = .returned (u64 (eqB v 1)) ∧ w = w' := by
  obtain ⟨p, L, R, hx, g1, g2, hl, wL, rfl⟩ := hx
  exact c_IsOne x p L R w hx
theorem k_BitLenVar (w : World) (g x n v : Nat) (hx : NumAt w g x n v) : Calls Tryz.prog 58 #[ptr x] w fun e w' => e = .returned (i64 (blen v)) ∧ w = w' := by
  obtain ⟨p, L, R, hx, g1, g2, hl, wL, rfl⟩ := hx
  exact c_BitLenVarTime x p L R w hx wL
theorem k_BitLen (w : World) (m mv : Nat) (hm : MdAt w m mv) : Calls Tryz.prog 38 #[ptr m] w fun e w' => e = .returned (i64 (blen mv)) ∧ w = w' := by
  obtain ⟨k, y, q, M, Q, hM, rfl⟩ := hm
  obtain ⟨o, kk, r, hh⟩ := hM.head
  exact c_BitLen m y q kk o r M Q w hh hM.nat hM.words
theorem k_Equal (w : World) (gx gy x y n v u : Nat) (hx : NumAt w gx x n v) (hy : NumAt w gy y n u) : Calls Tryz.prog 68 #[ptr x, ptr y] w fun e w' => e = .returned (u64 (eqB v u)) ∧ Mod [] w w' := by
  obtain ⟨p, L, R, hx, g1, g2, rfl, wL, rfl⟩ := hx
  obtain ⟨q, M, S, hy, g3, g4, hl, wM, rfl⟩ := hy
  exact c_Equal x y p q L R M S w hx hy hl wL wM
theorem k_IsOdd (w : World) (g x n v : Nat) (hx : NumAt w g x n v) : Calls Tryz.prog 84 #[ptr x] w fun e w' => e = .returned (u64 (v % 2)) ∧ w = w' := by
  obtain ⟨p, L, R, hx, g1, g2, hl, wL, rfl⟩ := hx
  exact c_IsOdd x p L R w hx wL
end Go.Proofs.YtkhopfobjijnlaaGreatDoor
