/- The specification's whole numbers: Below (written by ints4.py). spec.PowerMod, spec.PowerOf. Bytes are known by their length and their number. -/
import Derived.Test.YtkhopfobjijnlaaGreatDoorM21
import Derived.Test.YtkhopfobjijnlaaGreatDoorM19
import Derived.Test.YtkhopfobjijnlaaGreatDoorM14
set_option linter.all false
set_option exponentiation.threshold 7000000
namespace Go.Proofs.YtkhopfobjijnlaaGreatDoor
open Go.RowKit

def Held0 (w w' : World) (l : List (Nat × Value × Value)) : Prop := CellsAt w' l (Mod [] w w')
theorem Held0.keep {w w1 w2 : World} {l : List (Nat × Value × Value)} (h : Held0 w w1 l) (m : Mod [] w1 w2) : Held0 w w2 l := CellsAt.keep m (fun h => h.then m) h
theorem Held0.mod {w w1 : World} {l : List (Nat × Value × Value)} (h : Held0 w w1 l) : Mod [] w w1 := CellsAt.last h
theorem Held0.drew {w w1 : World} {l : List (Nat × Value × Value)} (h : Held0 w w1 l) : Held0 w w1.drew l := h.keep ((Mod.refl [] w1).drew)
theorem Held0.alloc {w w1 : World} {l : List (Nat × Value × Value)} {o : Obj} (h : Held0 w w1 l) : Held0 w (w1.alloc o) l := h.keep ((Mod.refl [] w1).alloc _)
theorem Held0.store {w w1 : World} {q : Nat} {l : List (Nat × Value × Value)} {x : Bool} {a : Option Addr} {n c : Nat} (hr : ∀ x ∈ l, x.1 ≠ q) (hw : w.heap.size ≤ q) (h : Held0 w w1 l) : Held0 w ((w1.setCell ⟨q, 0, none⟩ (.bool x)).setCell ⟨q, 1, none⟩ (.slice a n c)) l :=
  CellsAt.store (fun h => mod_store h hw) hr h
theorem held0_start (w : World) (x : Bool) (a : Option Addr) (k c : Nat) : Held0 w (w.alloc (.cells #[.bool x, .slice a k c] 67)) [(w.heap.size, .bool x, .slice a k c)] := by
  have h1 := int_cells (Blk.new w 67 [.bool x, .slice a k c])
  exact ⟨h1.1, h1.2.1, (Mod.refl [] w).alloc _⟩

/-- Stores into blocks of numbers with signs leave slices of digits alone. -/
theorem SliceK.ints {w w' : World} {s : Value} {L ps : List Nat} (h : SliceK i64 w s L) (hps : ∀ p ∈ ps, IntBlk w p) (m : Mod ps w w') : SliceK i64 w' s L := by
  rcases h with ⟨rfl, rfl⟩ | ⟨b, o, c, rfl, hc, hb⟩
  · exact .inl ⟨rfl, rfl⟩
  · refine .inr ⟨b, o, c, rfl, hc, fun i hi => ?_⟩
    have h1 := hb i hi
    have hne : b ∉ ps := by
      intro hp
      obtain ⟨x, a, n, d, hC⟩ := hps b hp
      have h2 := h1
      rw [hC.cell] at h2
      rcases Nat.lt_or_ge (o + i) 2 with h3 | h3
      · rcases (by omega : o + i = 0 ∨ o + i = 1) with h4 | h4
        · rw [h4] at h2; simp at h2
        · rw [h4] at h2; simp at h2
      · rw [List.getElem?_eq_none (by simpa using h3)] at h2; cases h2
    rw [← h1]; exact World.cell?_of_block (m.block b (block_lt_of_cell h1) hne)
theorem IntIs.ints {w w' : World} {v : Value} {z : Int} {ps : List Nat} (h : IntIs w v z) (hps : ∀ p ∈ ps, IntBlk w p) (m : Mod ps w w') : IntIs w' v z := by
  obtain ⟨s, L, h1, h2, h3, h4⟩ := h
  exact ⟨s, L, h1, h2.ints hps m, h3, h4⟩
theorem cellsAt_frame {w1 w2 : World} {P1 P2 : Prop} {ps : List Nat} (m : Mod ps w1 w2) (hP : P1 → P2) : ∀ {l : List (Nat × Value × Value)}, (∀ x ∈ l, x.1 ∉ ps) → CellsAt w1 l P1 → CellsAt w2 l P2
  | [], _, h => hP h
  | (p, u, v) :: l, hl, h => by
    have hp : p ∉ ps := hl (p, u, v) (by simp)
    refine ⟨?_, ?_, cellsAt_frame m hP (fun x hx => hl x (by simp [hx])) h.2.2⟩
    · rw [← h.1]; exact World.cell?_of_block (m.block p (block_lt_of_cell h.1) hp)
    · rw [← h.2.1]; exact World.cell?_of_block (m.block p (block_lt_of_cell h.2.1) hp)
theorem Held0.frame {w w1 w2 : World} {l : List (Nat × Value × Value)} {ps : List Nat} (h : Held0 w w1 l) (m : Mod ps w1 w2) (hl : ∀ x ∈ l, x.1 ∉ ps) (hps : ∀ p ∈ ps, w.heap.size ≤ p) : Held0 w w2 l :=
  cellsAt_frame m (fun h => h.keep m hps) hl h
theorem ints1 {w : World} {p : Nat} {x : Bool} {a : Option Addr} {n c : Nat} (h : Blk w p 67 [.bool x, .slice a n c]) : ∀ q ∈ [p], IntBlk w q := by
  intro q hq; simp at hq; subst hq; exact ⟨_, _, _, _, h⟩
theorem ints2 {w : World} {p q : Nat} {x y : Bool} {a b : Option Addr} {n c k d : Nat} (h : Blk w p 67 [.bool x, .slice a n c]) (h' : Blk w q 67 [.bool y, .slice b k d]) : ∀ t ∈ [p, q], IntBlk w t := by
  intro t ht; simp at ht; rcases ht with rfl | rfl
  · exact ⟨_, _, _, _, h⟩
  · exact ⟨_, _, _, _, h'⟩
theorem blk_up {w w' : World} {p T : Nat} {vs : List Value} (h : Blk w p T vs) (m : Mod [] w w') : Blk w' p T vs := h.mod m (by simp)

set_option maxRecDepth 100000 in
set_option maxHeartbeats 40000000 in
theorem c_Below (va vm : Value) (x : Int) (M : List Nat) (w : World) (ha : IntIs w va x) (hm : SliceK i64 w vm M) (cM : Canon M) (lx : x.natAbs < lim) (lM : valS M < lim) (h0 : valS M ≠ 0) :
    Calls Tryz.prog 51 #[va, vm] w fun e w' => ∃ v L, e = .returned v ∧ Mod [] w w' ∧ SliceK i64 w' v L ∧ Canon L ∧ (valS L : Int) = x % (valS M : Int) := by
  obtain ⟨ba, aa, na, ca, rfl⟩ := ha.lit
  have HS := hide (held0_start w ba aa na ca)
  have C1 := hide (fun w' (m : Mod [] w w') => c_Make false vm M w' (hm.mod m (by simp)) cM)
  have C2 := hide (fun w' (m : Mod [] w w') v (h : IntIs w' v (valS M)) => c_Euclid _ v x (valS M) w' (ha.mod m) h lx (by simpa using lM) (by omega))
  have HX : Hid (0 ≤ x % (valS M : Int)) := hide (Int.emod_nonneg _ (by omega))
  clear ha hm cM lx lM h0
  go_enter Tryz.func51, Tryz.ntmps51
  go_wp2_with fail
  go_region_held3 (fun w' => w'.cell? ⟨w.heap.size, 0, none⟩ = some (.bool ba) ∧ w'.cell? ⟨w.heap.size, 1, none⟩ = some (.slice aa na ca) ∧ Mod [] w w')
      (first | exact hS2 | exact hS1 | (refine hS2.frame (ps := []) ?fm ?fl ?fg; (case fl => (intro _ _; simp)); (case fg => (intro _ h; simp at h)); (case fm => (repeat (first | with_reducible exact Mod.refl _ _ | with_reducible refine Mod.drew ?_ | with_reducible refine Mod.alloc ?_ _ | ((with_reducible refine Mod.setCell ?_ _ _ ?side); (case side => (first | (intro _; simp; done) | (intro h; exact absurd h (Nat.lt_irrefl _)) | (intro h; exfalso; dsimp only at h; omega) | (intro h; simp at h; omega) | fail))))); done)) | (refine hS2.frame (ps := [w.heap.size + 1]) ?fm ?fl ?fg; (case fl => (intro x hx; simp only [List.mem_cons, List.not_mem_nil, or_false] at hx; subst hx; simp; omega)); (case fg => (intro x hx; simp at hx; omega)); (case fm => (repeat (first | with_reducible exact Mod.refl _ _ | with_reducible refine Mod.drew ?_ | with_reducible refine Mod.alloc ?_ _ | ((with_reducible refine Mod.setCell ?_ _ _ ?side); (case side => (first | (intro _; simp; done) | (intro h; exact absurd h (Nat.lt_irrefl _)) | (intro h; exfalso; dsimp only at h; omega) | (intro h; simp at h; omega) | fail))))); done)) | (refine hS2.frame (ps := [w.heap.size + 1, w.heap.size + 1 + 1]) ?fm ?fl ?fg; (case fl => (intro x hx; simp only [List.mem_cons, List.not_mem_nil, or_false] at hx; subst hx; simp; omega)); (case fg => (intro x hx; simp at hx; omega)); (case fm => (repeat (first | with_reducible exact Mod.refl _ _ | with_reducible refine Mod.drew ?_ | with_reducible refine Mod.alloc ?_ _ | ((with_reducible refine Mod.setCell ?_ _ _ ?side); (case side => (first | (intro _; simp; done) | (intro h; exact absurd h (Nat.lt_irrefl _)) | (intro h; exfalso; dsimp only at h; omega) | (intro h; simp at h; omega) | fail))))); done)) | (refine hS2.frame (ps := [w1.heap.size]) ?fm ?fl ?fg; (case fl => (intro x hx; simp only [List.mem_cons, List.not_mem_nil, or_false] at hx; subst hx; simp; omega)); (case fg => (intro x hx; simp at hx; omega)); (case fm => (repeat (first | with_reducible exact Mod.refl _ _ | with_reducible refine Mod.drew ?_ | with_reducible refine Mod.alloc ?_ _ | ((with_reducible refine Mod.setCell ?_ _ _ ?side); (case side => (first | (intro _; simp; done) | (intro h; exact absurd h (Nat.lt_irrefl _)) | (intro h; exfalso; dsimp only at h; omega) | (intro h; simp at h; omega) | fail))))); done)) | (refine hS2.frame (ps := [w1.heap.size, w1.heap.size + 1]) ?fm ?fl ?fg; (case fl => (intro x hx; simp only [List.mem_cons, List.not_mem_nil, or_false] at hx; subst hx; simp; omega)); (case fg => (intro x hx; simp at hx; omega)); (case fm => (repeat (first | with_reducible exact Mod.refl _ _ | with_reducible refine Mod.drew ?_ | with_reducible refine Mod.alloc ?_ _ | ((with_reducible refine Mod.setCell ?_ _ _ ?side); (case side => (first | (intro _; simp; done) | (intro h; exact absurd h (Nat.lt_irrefl _)) | (intro h; exfalso; dsimp only at h; omega) | (intro h; simp at h; omega) | fail))))); done)) | (refine hS2.frame (ps := [w.heap.size + 1, w1.heap.size]) ?fm ?fl ?fg; (case fl => (intro x hx; simp only [List.mem_cons, List.not_mem_nil, or_false] at hx; subst hx; simp; omega)); (case fg => (intro x hx; simp at hx; omega)); (case fm => (repeat (first | with_reducible exact Mod.refl _ _ | with_reducible refine Mod.drew ?_ | with_reducible refine Mod.alloc ?_ _ | ((with_reducible refine Mod.setCell ?_ _ _ ?side); (case side => (first | (intro _; simp; done) | (intro h; exact absurd h (Nat.lt_irrefl _)) | (intro h; exfalso; dsimp only at h; omega) | (intro h; simp at h; omega) | fail))))); done)) | (refine hS1.frame (ps := []) ?fm ?fl ?fg; (case fl => (intro _ _; simp)); (case fg => (intro _ h; simp at h)); (case fm => (repeat (first | with_reducible exact Mod.refl _ _ | with_reducible refine Mod.drew ?_ | with_reducible refine Mod.alloc ?_ _ | ((with_reducible refine Mod.setCell ?_ _ _ ?side); (case side => (first | (intro _; simp; done) | (intro h; exact absurd h (Nat.lt_irrefl _)) | (intro h; exfalso; dsimp only at h; omega) | (intro h; simp at h; omega) | fail))))); done)) | (refine HS.out.frame (ps := []) ?fm ?fl ?fg; (case fl => (intro _ _; simp)); (case fg => (intro _ h; simp at h)); (case fm => (repeat (first | with_reducible exact Mod.refl _ _ | with_reducible refine Mod.drew ?_ | with_reducible refine Mod.alloc ?_ _ | ((with_reducible refine Mod.setCell ?_ _ _ ?side); (case side => (first | (intro _; simp; done) | (intro h; exact absurd h (Nat.lt_irrefl _)) | (intro h; exfalso; dsimp only at h; omega) | (intro h; simp at h; omega) | fail))))); done)) | fail)
      (first | (go_at_call 32; refine (C1.out _ ?_).mono ?_; exact Held0.mod (l := [(_, _, _)]) (by assumption); rintro e w1 ⟨v1, rfl, m1, h1⟩; rw [if_neg (by simp)] at h1; have hS1 : Held0 w w1 [(w.heap.size, .bool ba, .slice aa na ca)] := HS.out.keep (Mod.then (by (repeat (first | with_reducible exact Mod.refl _ _ | with_reducible refine Mod.drew ?_ | with_reducible refine Mod.alloc ?_ _ | ((with_reducible refine Mod.setCell ?_ _ _ ?side); (case side => (first | (intro _; simp; done) | (intro h; exact absurd h (Nat.lt_irrefl _)) | (intro h; exfalso; dsimp only at h; omega) | (intro h; simp at h; omega) | fail))))); done) m1); have s1 := m1.size; (try (simp only [World.size_alloc, World.size_drew] at s1)); have p1 := True.intro; have p2 := True.intro; (first | (have p1 := ((Blk.new (w.alloc (.cells #[.bool ba, .slice aa na ca] 67)).drew 67 [.bool false, .slice none 0 0]).alloc _).mod m1 (by simp); have p2 := (Blk.new ((w.alloc (.cells #[.bool ba, .slice aa na ca] 67)).drew.alloc (.cells #[.bool false, .slice none 0 0] 67)) 67 [.bool false, .slice none 0 0]).mod m1 (by simp)) | (have p1 := (Blk.new (w.alloc (.cells #[.bool ba, .slice aa na ca] 67)).drew 67 [.bool false, .slice none 0 0]).mod m1 (by simp)) | skip); (first | (simp only [World.size_alloc, World.size_drew] at p1) | skip); (first | (have p1f := int_cells p1; obtain ⟨p10, p11, p12, p13⟩ := p1f) | skip); (first | (simp only [World.size_alloc, World.size_drew] at p2) | skip); (first | (have p2f := int_cells p2; obtain ⟨p20, p21, p22, p23⟩ := p2f) | skip)) | (go_at_call 76; have hmY : Mod [] w _ := Held0.mod (l := [(_, _, _)]) (by assumption); refine (C2.out _ hmY _ ?_).mono ?_; (first | exact h1 | exact h1.mod ((Mod.refl [] _).alloc _) | exact h1.mod (((Mod.refl [] _).alloc _).alloc _)); rintro e w2 ⟨vq, vr, zq, rfl, m2, hq, hr⟩; have hm2 := hmY.then m2; have hS2 : Held0 w w2 [(w.heap.size, .bool ba, .slice aa na ca)] := hS1.keep (Mod.then (by (repeat (first | with_reducible exact Mod.refl _ _ | with_reducible refine Mod.drew ?_ | with_reducible refine Mod.alloc ?_ _ | ((with_reducible refine Mod.setCell ?_ _ _ ?side); (case side => (first | (intro _; simp; done) | (intro h; exact absurd h (Nat.lt_irrefl _)) | (intro h; exfalso; dsimp only at h; omega) | (intro h; simp at h; omega) | fail))))); done) m2); have s2 := m2.size; (try (simp only [World.size_alloc] at s2)); have m12 : Mod [] w1 w2 := (by first | exact m2 | exact ((Mod.refl [] w1).alloc _).then m2 | exact (((Mod.refl [] w1).alloc _).alloc _).then m2); (first | (have p1 := blk_up p1 m12; have p1f := int_cells p1; obtain ⟨p10, p11, p12, p13⟩ := p1f) | skip); (first | (have p2 := blk_up p2 m12; have p2f := int_cells p2; obtain ⟨p20, p21, p22, p23⟩ := p2f) | skip); have r1 := True.intro; have r2 := True.intro; (first | (have r1 := ((Blk.new w1 67 [.bool false, .slice none 0 0]).alloc _).mod m2 (by simp); have r2 := (Blk.new (w1.alloc (.cells #[.bool false, .slice none 0 0] 67)) 67 [.bool false, .slice none 0 0]).mod m2 (by simp)) | (have r1 := (Blk.new w1 67 [.bool false, .slice none 0 0]).mod m2 (by simp)) | skip); (first | (simp only [World.size_alloc, World.size_drew] at r1) | skip); (first | (have r1f := int_cells r1; obtain ⟨r10, r11, r12, r13⟩ := r1f) | skip); (first | (simp only [World.size_alloc, World.size_drew] at r2) | skip); (first | (have r2f := int_cells r2; obtain ⟨r20, r21, r22, r23⟩ := r2f) | skip); obtain ⟨bq, aq, nq, cq, rfl⟩ := hq.lit; obtain ⟨br, ar, nr, cr, rfl⟩ := hr.lit; (first | (have p1g := int_cells (blk_up p1 ((Mod.refl [] w2).alloc (.cells #[.bool false, .slice none 0 0] 67))); obtain ⟨p14, p15, p16, p17⟩ := p1g) | skip); (first | (have p2g := int_cells (blk_up p2 ((Mod.refl [] w2).alloc (.cells #[.bool false, .slice none 0 0] 67))); obtain ⟨p24, p25, p26, p27⟩ := p2g) | skip); (first | (have r1g := int_cells (blk_up r1 ((Mod.refl [] w2).alloc (.cells #[.bool false, .slice none 0 0] 67))); obtain ⟨r14, r15, r16, r17⟩ := r1g) | skip); (first | (have r2g := int_cells (blk_up r2 ((Mod.refl [] w2).alloc (.cells #[.bool false, .slice none 0 0] 67))); obtain ⟨r24, r25, r26, r27⟩ := r2g) | skip); (first | (have p1h := int_cells (blk_up p1 ((Mod.refl [] w2).alloc (.cells #[.bool bq, .slice aq nq cq] 67))); obtain ⟨p18, p19, p1a, p1b⟩ := p1h) | skip); (first | (have p2h := int_cells (blk_up p2 ((Mod.refl [] w2).alloc (.cells #[.bool bq, .slice aq nq cq] 67))); obtain ⟨p28, p29, p2a, p2b⟩ := p2h) | skip); (first | (have r1h := int_cells (blk_up r1 ((Mod.refl [] w2).alloc (.cells #[.bool bq, .slice aq nq cq] 67))); obtain ⟨r18, r19, r1a, r1b⟩ := r1h) | skip); (first | (have r2h := int_cells (blk_up r2 ((Mod.refl [] w2).alloc (.cells #[.bool bq, .slice aq nq cq] 67))); obtain ⟨r28, r29, r2a, r2b⟩ := r2h) | skip); obtain ⟨b', s', R, e1, e2, e3, -, e5, -⟩ := hr.split; simp only [Value.agg.injEq, Array.mk.injEq, List.cons.injEq, and_true] at e1; obtain ⟨-, rfl⟩ := e1; have E5 := hide e5; clear e5))
  all_goals
    go_wp2_with fail
    go_ret
    refine ⟨_, R, rfl, ?_, ?_, e3, by rw [E5.out]; exact Int.natAbs_of_nonneg HX.out⟩
    · repeat (first | exact hm2 | refine Mod.drew ?_ | refine Mod.alloc ?_ _ | (refine Mod.setCell ?_ _ _ (by intro h; simp at h; omega)))
    · have h := e2
      first | (refine h.ints (ps := []) (by intro _ h; simp at h) ?fm; (case fm => (repeat (first | with_reducible exact Mod.refl _ _ | with_reducible refine Mod.drew ?_ | with_reducible refine Mod.alloc ?_ _ | ((with_reducible refine Mod.setCell ?_ _ _ ?side); (case side => (first | (intro _; simp; done) | (intro h; exact absurd h (Nat.lt_irrefl _)) | (intro h; exfalso; dsimp only at h; omega) | (intro h; simp at h; omega) | fail))))); done)) | (refine h.ints (ints1 p1) ?fm; (case fm => (repeat (first | with_reducible exact Mod.refl _ _ | with_reducible refine Mod.drew ?_ | with_reducible refine Mod.alloc ?_ _ | ((with_reducible refine Mod.setCell ?_ _ _ ?side); (case side => (first | (intro _; simp; done) | (intro h; exact absurd h (Nat.lt_irrefl _)) | (intro h; exfalso; dsimp only at h; omega) | (intro h; simp at h; omega) | fail))))); done)) | (refine h.ints (ints1 r1) ?fm; (case fm => (repeat (first | with_reducible exact Mod.refl _ _ | with_reducible refine Mod.drew ?_ | with_reducible refine Mod.alloc ?_ _ | ((with_reducible refine Mod.setCell ?_ _ _ ?side); (case side => (first | (intro _; simp; done) | (intro h; exact absurd h (Nat.lt_irrefl _)) | (intro h; exfalso; dsimp only at h; omega) | (intro h; simp at h; omega) | fail))))); done)) | (refine h.ints (ints2 p1 p2) ?fm; (case fm => (repeat (first | with_reducible exact Mod.refl _ _ | with_reducible refine Mod.drew ?_ | with_reducible refine Mod.alloc ?_ _ | ((with_reducible refine Mod.setCell ?_ _ _ ?side); (case side => (first | (intro _; simp; done) | (intro h; exact absurd h (Nat.lt_irrefl _)) | (intro h; exfalso; dsimp only at h; omega) | (intro h; simp at h; omega) | fail))))); done)) | (refine h.ints (ints2 p1 r1) ?fm; (case fm => (repeat (first | with_reducible exact Mod.refl _ _ | with_reducible refine Mod.drew ?_ | with_reducible refine Mod.alloc ?_ _ | ((with_reducible refine Mod.setCell ?_ _ _ ?side); (case side => (first | (intro _; simp; done) | (intro h; exact absurd h (Nat.lt_irrefl _)) | (intro h; exfalso; dsimp only at h; omega) | (intro h; simp at h; omega) | fail))))); done)) | (refine h.ints (ints2 r1 r2) ?fm; (case fm => (repeat (first | with_reducible exact Mod.refl _ _ | with_reducible refine Mod.drew ?_ | with_reducible refine Mod.alloc ?_ _ | ((with_reducible refine Mod.setCell ?_ _ _ ?side); (case side => (first | (intro _; simp; done) | (intro h; exact absurd h (Nat.lt_irrefl _)) | (intro h; exfalso; dsimp only at h; omega) | (intro h; simp at h; omega) | fail))))); done))
end Go.Proofs.YtkhopfobjijnlaaGreatDoor
namespace Go.Proofs.YtkhopfobjijnlaaGreatDoor
open Go.RowKit

/-- One bit more of an exponent. -/
theorem pow_bit (a e m j : Nat) : (a ^ (e / 2 ^ (j + 1)) % m * (a ^ (e / 2 ^ (j + 1)) % m)) % m = a ^ (2 * (e / 2 ^ (j + 1))) % m := by
  rw [← Nat.mul_mod, ← Nat.pow_add]
  congr 2
  omega
theorem bit_div (e j : Nat) : e / 2 ^ j = 2 * (e / 2 ^ (j + 1)) + e / 2 ^ j % 2 := by
  rw [Nat.pow_succ, ← Nat.div_div_eq_div_mul]
  omega

set_option maxRecDepth 100000 in
set_option maxHeartbeats 1000000 in
theorem c_PowerMod (va ve vm : Value) (A E M : List Nat) (w : World) (ha : SliceK i64 w va A) (he : SliceK i64 w ve E) (hmm : SliceK i64 w vm M) (cA : Canon A) (cE : Canon E) (cM : Canon M)
    (lA : A.length ≤ 20000) (lE : E.length ≤ 20000) (lM : M.length ≤ 20000) (hM : valS M ≠ 0) :
    Calls Tryz.prog 36 #[va, ve, vm] w fun e w' => ∃ v L, e = .returned v ∧ Mod [] w w' ∧ SliceK i64 w' v L ∧ Canon L ∧ valS L = valS A ^ valS E % valS M ∧ L.length ≤ M.length := by
  have hlen : ∀ L, Canon L → valS L < valS M → L.length ≤ M.length := fun L hL h => Canon.length_le cM.digits hL (by omega)
  have HM := hide (show 0 < valS M by omega)
  have hbl : blen (valS E) ≤ 320000 := by
    refine blen_le ?_
    have h1 := valS_lt cE.digits
    have h2 : 65536 ^ E.length = 2 ^ (16 * E.length) := by rw [Nat.pow_mul]
    have h3 : 2 ^ (16 * E.length) ≤ 2 ^ 320000 := Nat.pow_le_pow_right (by omega) (by omega)
    omega
  obtain ⟨n, hn⟩ : ∃ n, n = blen (valS E) := ⟨_, rfl⟩
  have HN := hide hn
  rw [← hn] at hbl
  have C1 := hide (fun w' (m : Mod [] w w') v L (h : SliceK i64 w' v L) (c : Canon L) (l : L.length ≤ 50000) => c_DivMod v vm L M w' h (hmm.mod m (by simp)) c cM l hM)
  have C2 := hide (fun w' (m : Mod [] w w') => c_Len ve E w' (he.mod m (by simp)) cE (by omega))
  rw [← hn] at C2
  clear hM hn
  go_enter Tryz.func36, Tryz.ntmps36
  go_wp2_with fail
  refine (c_Small 1 (by decide) _).mono ?_
  rintro e w1 ⟨v1, L1, rfl, m1, o1, k1, e1⟩
  have l1 : L1.length ≤ 50000 := Nat.le_trans (k1.length_lt (k := 1) (by rw [e1]; decide)) (by omega)
  have E1 := hide e1
  clear e1
  go_wp2_with fail
  refine (C1.out w1 m1 v1 L1 o1.slice k1 l1).mono ?_
  rintro e w2 ⟨q2, r2, Q2, R2, rfl, m2, -, -, -, -, hR2, kR2, eR2, lR2⟩
  have m02 : Mod [] w w2 := Mod.trans (U := []) m1 m2 (by simp) (by simp)
  have ER := hide eR2
  clear eR2
  go_wp2_with fail
  refine (C2.out w2 m02).mono ?_
  rintro e w3 ⟨rfl, m3⟩
  have m03 : Mod [] w w3 := Mod.trans (U := []) m02 m3 (by simp) (by simp)
  have hR3 := hR2.mod m3 (by simp)
  go_wp2_with fail
  go_loopw [8, 9] (fun o i wr => ∃ (vo : Value) (j : Nat) (O : List Nat), vo = o ∧ i = .int .i64 ((j : Int) - 1) ∧ j ≤ n ∧ Mod [] w wr ∧ SliceK i64 wr vo O ∧ Canon O ∧ Hid (valS O = valS A ^ (valS E / 2 ^ j) % valS M)) (fun _ i _ => (intOf i + 1).toNat)
  case atStart =>
    refine ⟨_, n, R2, rfl, rfl, by omega, m03, hR3, kR2, hide ?_⟩
    rw [ER.out, E1.out, HN.out, Nat.div_eq_of_lt (lt_two_blen _), Nat.pow_zero]
  case round =>
    obtain ⟨vo, j, O, rfl, rfl, hj, hm, hO, kO, hv⟩ := hrel
    have hlt : valS O < valS M := by rw [hv.out]; exact Nat.mod_lt _ HM.out
    have lO := hlen O kO hlt
    clear hlt
    cases j with
    | zero =>
      go_wp2_with fail
      go_ret
      exact ⟨vo, O, rfl, hm, hO, kO, by have := hv.out; simpa using this, lO⟩
    | succ j =>
      have ej : Hid (((j + 1 : Nat) : Int) - 1 = (j : Int)) := hide (by omega)
      rw [ej.out]
      have S1 := hide (fun w' (m : Mod [] w w') => c_Has ve E j w' (he.mod m (by simp)) cE.digits (by omega))
      go_wp2_with fail
      refine (c_sMul vo vo O O wr hO hO kO.digits kO.digits (by omega) (by omega)).mono ?_
      rintro e w4 ⟨v4, L4, rfl, m4, h4, k4, e4, l4⟩
      have m04 : Mod [] w w4 := Mod.trans (U := []) hm m4 (by simp) (by simp)
      have E4 := hide e4
      clear e4
      go_wp2_with fail
      refine (C1.out w4 m04 v4 L4 h4 k4 (by omega)).mono ?_
      rintro e w5 ⟨q5, r5, Q5, R5, rfl, m5, -, -, -, -, h5, k5, e5, l5⟩
      have m05 : Mod [] w w5 := Mod.trans (U := []) m04 m5 (by simp) (by simp)
      have E5 : Hid (valS R5 = valS A ^ (2 * (valS E / 2 ^ (j + 1))) % valS M) := hide (by rw [e5, E4.out, hv.out, pow_bit])
      have l5' : R5.length ≤ M.length := hlen R5 k5 (by rw [e5]; exact Nat.mod_lt _ HM.out)
      clear e5
      go_wp2_with fail
      refine (S1.out w5 m05).mono ?_
      rintro e w6 ⟨rfl, m6⟩
      have m06 : Mod [] w w6 := Mod.trans (U := []) m05 m6 (by simp) (by simp)
      have h6 := h5.mod m6 (by simp)
      obtain ⟨b, hb⟩ : ∃ b, b = bitB (valS E) j := ⟨_, rfl⟩
      rw [← hb]
      have HB := hide hb
      clear hb
      cases b with
      | false =>
        go_wp2_with fail
        go_roundw
        case rel =>
          refine ⟨r5, j, R5, rfl, rfl, by omega, m06, h6, k5, hide ?_⟩
          have hb := HB.out
          unfold bitB at hb
          have h2 : valS E / 2 ^ j % 2 = 0 := by have := of_decide_eq_false hb.symm; omega
          rw [bit_div (valS E) j, h2, Nat.add_zero, E5.out]
        case measure => first | (simp [intOf]; done) | (simp [intOf]; omega)
      | true =>
        go_wp2_with fail
        refine (c_sMul r5 va R5 A w6 h6 (ha.mod m06 (by simp)) k5.digits cA.digits (by omega) (by omega)).mono ?_
        rintro e w7 ⟨v7, L7, rfl, m7, h7, k7, e7, l7⟩
        have m07 : Mod [] w w7 := Mod.trans (U := []) m06 m7 (by simp) (by simp)
        have E7 := hide e7
        clear e7
        go_wp2_with fail
        refine (C1.out w7 m07 v7 L7 h7 k7 (by omega)).mono ?_
        rintro e w8 ⟨q8, r8, Q8, R8, rfl, m8, -, -, -, -, h8, k8, e8, l8⟩
        have m08 : Mod [] w w8 := Mod.trans (U := []) m07 m8 (by simp) (by simp)
        have E8 : Hid (valS R8 = valS A ^ (valS E / 2 ^ j) % valS M) := by
          refine hide ?_
          have hb := HB.out
          unfold bitB at hb
          have h2 : valS E / 2 ^ j % 2 = 1 := of_decide_eq_true hb.symm
          rw [e8, E7.out, E5.out, bit_div (valS E) j, h2, Nat.mod_mul_mod, ← Nat.pow_succ]
        clear e8
        go_wp2_with fail
        go_roundw
        case rel => exact ⟨r8, j, R8, rfl, rfl, by omega, m08, h8, k8, E8⟩
        case measure => first | (simp [intOf]; done) | (simp [intOf]; omega)
end Go.Proofs.YtkhopfobjijnlaaGreatDoor
namespace Go.Proofs.YtkhopfobjijnlaaGreatDoor
open Go.RowKit

theorem bval_inj {A B : List Nat} (hA : Bytes A) (hB : Bytes B) (hl : A.length = B.length) (h : bval A = bval B) : A = B := by
  apply List.ext_getElem hl
  intro i h1 h2
  rw [← nth_eq A i h1, ← nth_eq B i h2]
  have e1 := bseg_digit hA (e := A.length) (k := A.length - 1 - i) (t := A.length) (by omega)
  have e2 := bseg_digit hB (e := B.length) (k := B.length - 1 - i) (t := B.length) (by omega)
  rw [show A.length - 1 - (A.length - 1 - i) = i by omega] at e1
  rw [show B.length - 1 - (B.length - 1 - i) = i by omega] at e2
  rw [e1, e2]
  unfold bval at h
  rw [h, hl]
end Go.Proofs.YtkhopfobjijnlaaGreatDoor
