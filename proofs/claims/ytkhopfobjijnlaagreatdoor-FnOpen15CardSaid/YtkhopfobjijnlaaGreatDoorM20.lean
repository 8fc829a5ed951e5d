/- The specification's whole numbers: Of64, Opposite, Times. -/
import Derived.Test.YtkhopfobjijnlaaGreatDoorM19
import Derived.Deep.RegionHeld3
set_option linter.all false
namespace Go.Proofs.YtkhopfobjijnlaaGreatDoor
open Go.RowKit

/-- Sizes that are met: 20000 digits. -/
def lim : Nat := 65536 ^ 20000
theorem lim_eq : lim = 65536 ^ 20000 := by rw [lim]
theorem Canon.lim {L : List Nat} (h : Canon L) (hl : valS L < lim) : L.length ≤ 20000 := h.length_lt (by rw [← lim_eq]; exact hl)
attribute [irreducible] lim

theorem IntIs.split {w : World} {v : Value} {z : Int} (h : IntIs w v z) : ∃ b s L, v = .agg #[.bool b, s] ∧ SliceK i64 w s L ∧ Canon L ∧ z = (if b then -(valS L : Int) else valS L) ∧ valS L = z.natAbs ∧ b = decide (z < 0) := by
  obtain ⟨s, L, h1, h2, h3, h4⟩ := h
  refine ⟨_, s, L, h1, h2, h3, ?_, h4, rfl⟩
  by_cases h0 : z < 0
  · rw [decide_eq_true h0, if_pos rfl]; omega
  · rw [decide_eq_false h0, if_neg (by simp)]; omega

theorem int_cells {w : World} {p : Nat} {u v : Value} (h : Blk w p 67 [u, v]) : w.cell? ⟨p, 0, none⟩ = some u ∧ w.cell? ⟨p, 1, none⟩ = some v ∧ w.frozen? ⟨p, 0, none⟩ = false ∧ w.frozen? ⟨p, 1, none⟩ = false :=
  ⟨by rw [h.cell]; rfl, by rw [h.cell]; rfl, h.frozen 0, h.frozen 1⟩

/-- A number is stored into a result's block. -/
theorem int_stored {w w' : World} {p : Nat} {u v c0 c1 : Value} (hC : Blk w' p 67 [u, v]) (m : Mod [] w w') (hp : w.heap.size ≤ p) :
    Mod [] w ((w'.setCell ⟨p, 0, none⟩ c0).setCell ⟨p, 1, none⟩ c1) ∧ Mod [p] w' ((w'.setCell ⟨p, 0, none⟩ c0).setCell ⟨p, 1, none⟩ c1) ∧ IntAt ((w'.setCell ⟨p, 0, none⟩ c0).setCell ⟨p, 1, none⟩ c1) p (.agg #[c0, c1]) :=
  ⟨(m.setCell _ _ (fun h => by simp at h; omega)).setCell _ _ (fun h => by simp at h; omega), ((Mod.refl [p] _).setCell _ _ (by simp)).setCell _ _ (by simp), blk2 ((hC.setCell 0 c0).setCell 1 c1)⟩
theorem SliceK.setInt {w w' : World} {s : Value} {L : List Nat} {p T : Nat} {x : Bool} {y : Value} (h : SliceK i64 w s L) (hC : Blk w p T [.bool x, y]) (hy : ∀ k : Nat, y ≠ i64 k) (m : Mod [p] w w') : SliceK i64 w' s L := by
  rcases h with ⟨rfl, rfl⟩ | ⟨b, o, c, rfl, hc, hb⟩
  · exact .inl ⟨rfl, rfl⟩
  · refine .inr ⟨b, o, c, rfl, hc, fun i hi => ?_⟩
    have h1 := hb i hi
    have hne : b ≠ p := by
      rintro rfl
      have h2 := h1
      rw [hC.cell] at h2
      rcases Nat.lt_or_ge (o + i) 2 with h3 | h3
      · rcases (by omega : o + i = 0 ∨ o + i = 1) with h4 | h4
        · rw [h4] at h2; simp at h2
        · rw [h4] at h2; simp at h2; exact hy _ h2
      · rw [List.getElem?_eq_none (by simpa using h3)] at h2; cases h2
    rw [← h1]; exact World.cell?_of_block (m.block b (block_lt_of_cell h1) (by simpa using hne))
theorem IntIs.set {w w' : World} {p T : Nat} {v : Value} {z : Int} {x : Bool} {a : Option Addr} {n c : Nat} (h : IntIs w v z) (hC : Blk w p T [.bool x, .slice a n c]) (m : Mod [p] w w') : IntIs w' v z := by
  obtain ⟨s, L, h1, h2, h3, h4⟩ := h
  exact ⟨s, L, h1, h2.setInt hC (by intro k; simp) m, h3, h4⟩
theorem IntIs.lit {w : World} {v : Value} {z : Int} (h : IntIs w v z) : ∃ b a n c, v = .agg #[.bool b, .slice a n c] := by
  obtain ⟨s, L, h1, h2, h3, h4⟩ := h
  obtain ⟨a, c, rfl⟩ := h2.lit
  exact ⟨_, _, _, _, h1⟩
/-- Any block of such a number. -/
abbrev IntBlk (w : World) (p : Nat) : Prop := ∃ x a n c, Blk w p 67 [.bool x, .slice a n c]

set_option maxRecDepth 100000 in
theorem c_Of64 (n : Nat) (hn : n < 9223372036854775808) (w : World) :
    Calls Tryz.prog 71 #[i64 n] w fun e w' => ∃ v, e = .returned v ∧ Mod [] w w' ∧ IntIs w' v n := by
  have h0 : ¬ (n : Int) < 0 := by omega
  have hw : IntKind.u64.wrap (n : Int) = (n : Int) := by rw [IntKind.wrap_u64]; omega
  have hsl : SliceK u64 ((w.alloc (.cells #[.bool false, .slice none 0 0] 67)).alloc (.cells #[.int .u64 (n : Int)] 98)) (sl (w.heap.size + 1) 0 1 1) [n] := by
    refine .inr ⟨w.heap.size + 1, 0, 1, rfl, by simp, fun i hi => ?_⟩
    obtain rfl : i = 0 := by simpa using hi
    have := blk_cell0 (Blk.new (w.alloc (.cells #[.bool false, .slice none 0 0] 67)) 98 [u64 n])
    rw [World.size_alloc] at this
    exact this
  have hC : Blk ((w.alloc (.cells #[.bool false, .slice none 0 0] 67)).alloc (.cells #[.int .u64 (n : Int)] 98)) w.heap.size 67 [.bool false, .slice none 0 0] := (Blk.new w _ [.bool false, .slice none 0 0]).alloc _
  have hwd : Words [n] := by intro i hi; obtain rfl : i = 0 := by simpa using hi
                             show n < W
                             rw [W_eq]; omega
  have m0 : Mod [] w ((w.alloc (.cells #[.bool false, .slice none 0 0] 67)).alloc (.cells #[.int .u64 (n : Int)] 98)) := ((Mod.refl [] w).alloc _).alloc _
  have C1 := hide (c_Of _ [n] _ hsl hwd (by simp))
  clear hn hsl hwd
  go_enter Tryz.func71, Tryz.ntmps71
  go_wp2_with fail
  refine C1.out.mono ?_
  rintro e w1 ⟨v1, L1, rfl, m1, h1, k1, e1, -⟩
  have E1 := hide e1
  clear e1
  go_wp2_with fail
  refine (c_Make false v1 L1 w1 h1 k1).mono ?_
  rintro e w2 ⟨v2, rfl, m2, h2⟩
  rw [if_neg (by simp), E1.out] at h2
  have hC2 := hC.mod (m1.then m2) (by simp)
  obtain ⟨b, a, k, c, rfl⟩ := h2.lit
  obtain ⟨f0, f1, f2, f3⟩ := int_cells hC2
  have m02 := m0.then (m1.then m2)
  have hst := fun c0 c1 => int_stored (c0 := c0) (c1 := c1) hC2 m02 (Nat.le_refl _)
  go_wp2_with fail
  refine bodyPost_ret (results_int rfl rfl (hst _ _).2.2) rfl ?_
  exact ⟨_, rfl, (hst _ _).1, by have := h2.set hC2 (hst (.bool b) (.slice a k c)).2.1; simpa [val] using this⟩

/-- What a region holds on to: cells of numbers with signs, and P of the world. -/
def CellsAt (w' : World) : List (Nat × Value × Value) → Prop → Prop
  | [], P => P
  | (p, u, v) :: l, P => w'.cell? ⟨p, 0, none⟩ = some u ∧ w'.cell? ⟨p, 1, none⟩ = some v ∧ CellsAt w' l P
theorem cell_mod {w w' : World} (m : Mod [] w w') {b o : Nat} {v : Value} (h : w.cell? ⟨b, o, none⟩ = some v) : w'.cell? ⟨b, o, none⟩ = some v := by
  rw [← h]; exact World.cell?_of_block (m.block b (block_lt_of_cell h) (by simp))
theorem IntBlk.mod {w w' : World} {p : Nat} (h : IntBlk w p) (m : Mod [] w w') : IntBlk w' p := by
  obtain ⟨x, a, n, c, h⟩ := h
  exact ⟨x, a, n, c, h.mod m (by simp)⟩
theorem CellsAt.keep {w1 w2 : World} {P1 P2 : Prop} (m : Mod [] w1 w2) (hP : P1 → P2) : ∀ {l : List (Nat × Value × Value)}, CellsAt w1 l P1 → CellsAt w2 l P2
  | [], h => hP h
  | (_, _, _) :: _, h => ⟨cell_mod m h.1, cell_mod m h.2.1, CellsAt.keep m hP h.2.2⟩
theorem CellsAt.last {w1 : World} {P : Prop} : ∀ {l : List (Nat × Value × Value)}, CellsAt w1 l P → P
  | [], h => h
  | (_, _, _) :: _, h => CellsAt.last h.2.2
/-- A store into a block that is none of theirs. -/
theorem CellsAt.store {w1 : World} {P1 P2 : Prop} {r : Nat} {c0 c1 : Value} (hP : P1 → P2) : ∀ {l : List (Nat × Value × Value)}, (∀ x ∈ l, x.1 ≠ r) → CellsAt w1 l P1 → CellsAt ((w1.setCell ⟨r, 0, none⟩ c0).setCell ⟨r, 1, none⟩ c1) l P2
  | [], _, h => hP h
  | (p, u, v) :: l, hr, h => by
    have hp : p ≠ r := hr (p, u, v) (by simp)
    have e : ((w1.setCell ⟨r, 0, none⟩ c0).setCell ⟨r, 1, none⟩ c1).heap[p]? = w1.heap[p]? := (Below.heap_setCell _ _ _ _ hp).trans (Below.heap_setCell _ _ _ _ hp)
    exact ⟨(World.cell?_of_block e).trans h.1, (World.cell?_of_block e).trans h.2.1, CellsAt.store hP (fun x hx => hr x (by simp [hx])) h.2.2⟩
theorem IntBlk.store {w : World} {p r : Nat} {x : Bool} {a : Option Addr} {n c : Nat} (h : IntBlk w p) : IntBlk ((w.setCell ⟨r, 0, none⟩ (.bool x)).setCell ⟨r, 1, none⟩ (.slice a n c)) p := by
  obtain ⟨y, b, k, d, h⟩ := h
  by_cases hp : p = r
  · subst hp; exact ⟨x, a, n, c, (h.setCell 0 _).setCell 1 _⟩
  · exact ⟨y, b, k, d, (h.setCell_other _ _ hp).setCell_other _ _ hp⟩

/-- .. with one result's block, with two. -/
def Held1 (w w' : World) (r : Nat) (l : List (Nat × Value × Value)) : Prop := CellsAt w' l (Mod [] w w' ∧ IntBlk w' r)
def Held2 (w w' : World) (r t : Nat) (l : List (Nat × Value × Value)) : Prop := CellsAt w' l (Mod [] w w' ∧ IntBlk w' r ∧ IntBlk w' t)
theorem Held1.keep {w w1 w2 : World} {r : Nat} {l : List (Nat × Value × Value)} (h : Held1 w w1 r l) (m : Mod [] w1 w2) : Held1 w w2 r l := CellsAt.keep m (fun h => ⟨h.1.then m, h.2.mod m⟩) h
theorem Held2.keep {w w1 w2 : World} {r t : Nat} {l : List (Nat × Value × Value)} (h : Held2 w w1 r t l) (m : Mod [] w1 w2) : Held2 w w2 r t l := CellsAt.keep m (fun h => ⟨h.1.then m, h.2.1.mod m, h.2.2.mod m⟩) h
theorem Held1.mod {w w1 : World} {r : Nat} {l : List (Nat × Value × Value)} (h : Held1 w w1 r l) : Mod [] w w1 := (CellsAt.last h).1
theorem Held2.mod {w w1 : World} {r t : Nat} {l : List (Nat × Value × Value)} (h : Held2 w w1 r t l) : Mod [] w w1 := (CellsAt.last h).1
theorem Held1.blk {w w1 : World} {r : Nat} {l : List (Nat × Value × Value)} (h : Held1 w w1 r l) : IntBlk w1 r := (CellsAt.last h).2
theorem Held2.blk {w w1 : World} {r t : Nat} {l : List (Nat × Value × Value)} (h : Held2 w w1 r t l) : IntBlk w1 r ∧ IntBlk w1 t := (CellsAt.last h).2
theorem mod_store {w w1 : World} {r : Nat} {c0 c1 : Value} (h : Mod [] w w1) (hr : w.heap.size ≤ r) : Mod [] w ((w1.setCell ⟨r, 0, none⟩ c0).setCell ⟨r, 1, none⟩ c1) := (h.setCell _ _ (fun h => by simp at h; omega)).setCell _ _ (fun h => by simp at h; omega)
theorem Held1.store {w w1 : World} {r q : Nat} {l : List (Nat × Value × Value)} {x : Bool} {a : Option Addr} {n c : Nat} (hr : ∀ x ∈ l, x.1 ≠ q) (hw : w.heap.size ≤ q) (h : Held1 w w1 r l) : Held1 w ((w1.setCell ⟨q, 0, none⟩ (.bool x)).setCell ⟨q, 1, none⟩ (.slice a n c)) r l :=
  CellsAt.store (fun h => ⟨mod_store h.1 hw, h.2.store⟩) hr h
theorem Held2.store {w w1 : World} {r t q : Nat} {l : List (Nat × Value × Value)} {x : Bool} {a : Option Addr} {n c : Nat} (hr : ∀ x ∈ l, x.1 ≠ q) (hw : w.heap.size ≤ q) (h : Held2 w w1 r t l) : Held2 w ((w1.setCell ⟨q, 0, none⟩ (.bool x)).setCell ⟨q, 1, none⟩ (.slice a n c)) r t l :=
  CellsAt.store (fun h => ⟨mod_store h.1 hw, h.2.1.store, h.2.2.store⟩) hr h
theorem Held1.drew {w w1 : World} {r : Nat} {l : List (Nat × Value × Value)} (h : Held1 w w1 r l) : Held1 w w1.drew r l := h.keep ((Mod.refl [] w1).drew)
theorem Held2.drew {w w1 : World} {r t : Nat} {l : List (Nat × Value × Value)} (h : Held2 w w1 r t l) : Held2 w w1.drew r t l := h.keep ((Mod.refl [] w1).drew)
theorem held1_start (w : World) (x y : Bool) (a b : Option Addr) (k c n d : Nat) : Held1 w (((w.alloc (.cells #[.bool x, .slice a k c] 67)).alloc (.cells #[.bool y, .slice b n d] 67)).alloc (.cells #[.bool false, .slice none 0 0] 67)) (w.heap.size + 1 + 1)
    [(w.heap.size, .bool x, .slice a k c), (w.heap.size + 1, .bool y, .slice b n d)] := by
  have h1 := int_cells (((Blk.new w 67 [.bool x, .slice a k c]).alloc (.cells #[.bool y, .slice b n d] 67)).alloc (.cells #[.bool false, .slice none 0 0] 67))
  have h2 := int_cells ((Blk.new (w.alloc (.cells #[.bool x, .slice a k c] 67)) 67 [.bool y, .slice b n d]).alloc (.cells #[.bool false, .slice none 0 0] 67))
  have h3 := (Blk.new ((w.alloc (.cells #[.bool x, .slice a k c] 67)).alloc (.cells #[.bool y, .slice b n d] 67)) 67 [.bool false, .slice none 0 0])
  simp only [World.size_alloc] at h2 h3
  exact ⟨h1.1, h1.2.1, h2.1, h2.2.1, ((((Mod.refl [] w).alloc _).alloc _).alloc _), ⟨_, _, _, _, h3⟩⟩
theorem held2_start (w : World) (x y : Bool) (a b : Option Addr) (k c n d : Nat) : Held2 w ((((w.alloc (.cells #[.bool x, .slice a k c] 67)).alloc (.cells #[.bool y, .slice b n d] 67)).alloc (.cells #[.bool false, .slice none 0 0] 67)).alloc (.cells #[.bool false, .slice none 0 0] 67)) (w.heap.size + 1 + 1) (w.heap.size + 1 + 1 + 1)
    [(w.heap.size, .bool x, .slice a k c), (w.heap.size + 1, .bool y, .slice b n d)] := by
  have h1 := int_cells ((((Blk.new w 67 [.bool x, .slice a k c]).alloc (.cells #[.bool y, .slice b n d] 67)).alloc (.cells #[.bool false, .slice none 0 0] 67)).alloc (.cells #[.bool false, .slice none 0 0] 67))
  have h2 := int_cells (((Blk.new (w.alloc (.cells #[.bool x, .slice a k c] 67)) 67 [.bool y, .slice b n d]).alloc (.cells #[.bool false, .slice none 0 0] 67)).alloc (.cells #[.bool false, .slice none 0 0] 67))
  have h3 := (Blk.new ((w.alloc (.cells #[.bool x, .slice a k c] 67)).alloc (.cells #[.bool y, .slice b n d] 67)) 67 [.bool false, .slice none 0 0]).alloc (.cells #[.bool false, .slice none 0 0] 67)
  have h4 := Blk.new (((w.alloc (.cells #[.bool x, .slice a k c] 67)).alloc (.cells #[.bool y, .slice b n d] 67)).alloc (.cells #[.bool false, .slice none 0 0] 67)) 67 [.bool false, .slice none 0 0]
  simp only [World.size_alloc] at h2 h3 h4
  exact ⟨h1.1, h1.2.1, h2.1, h2.2.1, ((((Mod.refl [] w).alloc _).alloc _).alloc _).alloc _, ⟨_, _, _, _, h3⟩, ⟨_, _, _, _, h4⟩⟩

set_option maxRecDepth 100000 in
theorem c_Times (va vb : Value) (x y : Int) (w : World) (ha : IntIs w va x) (hb : IntIs w vb y) (lx : x.natAbs < lim) (ly : y.natAbs < lim) :
    Calls Tryz.prog 74 #[va, vb] w fun e w' => ∃ v, e = .returned v ∧ Mod [] w w' ∧ IntIs w' v (x * y) := by
  obtain ⟨ba, sa, A, rfl, hsa, cA, ex, ax, dx⟩ := ha.split
  obtain ⟨bb, sb, B, rfl, hsb, cB, ey, ay, dy⟩ := hb.split
  have lA := cA.lim (by rw [ax]; exact lx)
  have lB := cB.lim (by rw [ay]; exact ly)
  have HZ : Hid (∀ n : Nat, n = valS A * valS B → (if (ba != bb) then -(n : Int) else n) = x * y) := by
    refine hide fun n h => ?_
    rw [h, ex, ey]
    cases ba <;> cases bb <;> simp [Int.neg_mul, Int.mul_neg]
  have C1 := hide (fun w' (m : Mod [] w w') => c_sMul sa sb A B w' (hsa.mod m (by simp)) (hsb.mod m (by simp)) cA.digits cB.digits (by omega) (by omega))
  have C2 := hide (fun w' b v L (h : SliceK i64 w' v L) (c : Canon L) => c_Make b v L w' h c)
  clear ha hb ex ey ax ay dx dy
  obtain ⟨aa, ca, rfl⟩ := hsa.lit
  obtain ⟨ab, cb, rfl⟩ := hsb.lit
  go_enter Tryz.func74, Tryz.ntmps74
  go_wp2_with fail
  go_region_held3 (fun w' => w'.cell? ⟨w.heap.size, 0, none⟩ = some (.bool ba) ∧ w'.cell? ⟨w.heap.size, 1, none⟩ = some (.slice aa A.length ca) ∧ w'.cell? ⟨w.heap.size + 1, 0, none⟩ = some (.bool bb) ∧ w'.cell? ⟨w.heap.size + 1, 1, none⟩ = some (.slice ab B.length cb) ∧ Mod [] w w' ∧ IntBlk w' (w.heap.size + 1 + 1))
    (first | exact Held1.drew (held1_start w _ _ _ _ _ _ _ _) | exact Held1.keep (l := [(_, _, _), (_, _, _)]) (by assumption) (by assumption) | exact Held1.store (l := [(_, _, _), (_, _, _)]) (by intro x hx; simp only [List.mem_cons, List.not_mem_nil, or_false] at hx; rcases hx with rfl | rfl <;> (dsimp only; omega)) (by omega) (by assumption))
    (first | (go_at_call 29; refine (C1.out _ ?_).mono ?_; exact Held1.mod (l := [(_, _, _), (_, _, _)]) (by assumption); rintro e w1 ⟨v1, L1, rfl, m1, h1, k1, e1, -⟩; have E1 := hide e1; clear e1) | (go_at_call 32; refine (C2.out _ _ _ _ h1 k1).mono ?_; rintro e w2 ⟨v2, rfl, m2, h2⟩; obtain ⟨b2, a2, n2, c2, rfl⟩ := h2.lit; obtain ⟨x2, y2, z2, u2, hb2⟩ := Held1.blk (w := w) (w1 := w1) (l := [(_, _, _), (_, _, _)]) (by assumption); have hm2 := (Held1.mod (w := w) (w1 := w1) (l := [(_, _, _), (_, _, _)]) (by assumption)).then m2; have hb3 := hb2.mod m2 (by simp); obtain ⟨f0, f1, f2, f3⟩ := int_cells hb3))
  have hst := fun c0 c1 => int_stored (c0 := c0) (c1 := c1) hb3 hm2 (show w.heap.size ≤ w.heap.size + 1 + 1 by omega)
  go_wp2_with fail
  refine bodyPost_ret (results_int rfl rfl (hst _ _).2.2) rfl ?_
  exact ⟨_, rfl, (hst _ _).1, by have := h2.set hb3 (hst (.bool b2) (.slice a2 n2 c2)).2.1; rw [← HZ.out _ E1.out]; exact this⟩

set_option maxRecDepth 100000 in
set_option maxHeartbeats 1000000 in
theorem c_Plus (va vb : Value) (x y : Int) (w : World) (ha : IntIs w va x) (hb : IntIs w vb y) (lx : x.natAbs < lim) (ly : y.natAbs < lim) :
    Calls Tryz.prog 103 #[va, vb] w fun e w' => ∃ v, e = .returned v ∧ Mod [] w w' ∧ IntIs w' v (x + y) := by
  obtain ⟨ba, sa, A, rfl, hsa, cA, ex, ax, dx⟩ := ha.split
  obtain ⟨bb, sb, B, rfl, hsb, cB, ey, ay, dy⟩ := hb.split
  have lA := cA.lim (by rw [ax]; exact lx)
  have lB := cB.lim (by rw [ay]; exact ly)
  have C2 := hide (fun w' b v L (h : SliceK i64 w' v L) (c : Canon L) => c_Make b v L w' h c)
  rcases Bool.eq_false_or_eq_true (ba == bb) with hab | hab
  · have HZ : Hid (∀ n : Nat, n = valS A + valS B → (if ba then -(n : Int) else n) = x + y) := by
      refine hide fun n h => ?_
      have hab2 : ba = bb := by simpa using hab
      rw [h, ex, ey, ← hab2]
      cases ba <;> simp <;> omega
    have C1 := hide (fun w' (m : Mod [] w w') => c_sAdd sa sb A B w' (hsa.mod m (by simp)) (hsb.mod m (by simp)) cA.digits cB.digits (by omega) (by omega))
    clear ha hb ex ey ax ay dx dy
    obtain ⟨aa, ca, rfl⟩ := hsa.lit
    obtain ⟨ab, cb, rfl⟩ := hsb.lit
    have HS := hide (held1_start w ba bb aa ab A.length ca B.length cb)
    go_enter Tryz.func103, Tryz.ntmps103
    go_wp2_with fail
    go_region_held3 (fun w' => w'.cell? ⟨w.heap.size, 0, none⟩ = some (.bool ba) ∧ w'.cell? ⟨w.heap.size, 1, none⟩ = some (.slice aa A.length ca) ∧ w'.cell? ⟨w.heap.size + 1, 0, none⟩ = some (.bool bb) ∧ w'.cell? ⟨w.heap.size + 1, 1, none⟩ = some (.slice ab B.length cb) ∧ Mod [] w w' ∧ IntBlk w' (w.heap.size + 1 + 1))
      (first | exact Held1.drew HS.out | exact Held1.drew (held1_start w _ _ _ _ _ _ _ _) | exact Held1.keep (l := [(_, _, _), (_, _, _)]) (by assumption) (by assumption) | exact Held1.store (l := [(_, _, _), (_, _, _)]) (by intro x hx; simp only [List.mem_cons, List.not_mem_nil, or_false] at hx; rcases hx with rfl | rfl <;> (dsimp only; omega)) (by omega) (by assumption))
      (first | (go_at_call 27; refine (C1.out _ ?_).mono ?_; exact Held1.mod (l := [(_, _, _), (_, _, _)]) (by assumption); rintro e w1 ⟨v1, L1, rfl, m1, h1, k1, e1, -⟩; have E1 := hide e1; clear e1) | (go_at_call 32; refine (C2.out _ _ _ _ h1 k1).mono ?_; rintro e w2 ⟨v2, rfl, m2, h2⟩; obtain ⟨b2, a2, n2, c2, rfl⟩ := h2.lit; obtain ⟨x2, y2, z2, u2, hb2⟩ := Held1.blk (w := w) (w1 := w1) (l := [(_, _, _), (_, _, _)]) (by assumption); have hm2 := (Held1.mod (w := w) (w1 := w1) (l := [(_, _, _), (_, _, _)]) (by assumption)).then m2; have hb3 := hb2.mod m2 (by simp); obtain ⟨f0, f1, f2, f3⟩ := int_cells hb3))
    have hst := fun c0 c1 => int_stored (c0 := c0) (c1 := c1) hb3 hm2 (show w.heap.size ≤ w.heap.size + 1 + 1 by omega)
    go_wp2_with fail
    refine bodyPost_ret (results_int rfl rfl (hst _ _).2.2) rfl ?_
    exact ⟨_, rfl, (hst _ _).1, by have := h2.set hb3 (hst (.bool b2) (.slice a2 n2 c2)).2.1; rw [← HZ.out _ E1.out]; exact this⟩
  · have HZ1 : Hid (∀ n : Nat, n = valS A - valS B → valS B ≤ valS A → (if ba then -(n : Int) else n) = x + y) := by
      refine hide fun n h hle => ?_
      have hab2 : ba ≠ bb := by simpa using hab
      rw [h, ex, ey]
      cases ba <;> cases bb <;> simp at hab2 ⊢ <;> omega
    have HZ2 : Hid (∀ n : Nat, n = valS B - valS A → valS A ≤ valS B → (if bb then -(n : Int) else n) = x + y) := by
      refine hide fun n h hle => ?_
      have hab2 : ba ≠ bb := by simpa using hab
      rw [h, ex, ey]
      cases ba <;> cases bb <;> simp at hab2 ⊢ <;> omega
    have C0 := hide (fun w' (m : Mod [] w w') => c_Cmp sa sb A B w' (hsa.mod m (by simp)) (hsb.mod m (by simp)) cA cB (by omega))
    obtain ⟨cv, hcv⟩ : ∃ cv, cv = cmpV (valS A) (valS B) := ⟨_, rfl⟩
    have hcn := cmpV_neg (valS A) (valS B)
    rw [← hcv] at C0 hcn
    have C1 : Hid (valS B ≤ valS A → ∀ w', Mod [] w w' → _) := hide (fun hle w' (m : Mod [] w w') => c_sSub sa sb A B w' (hsa.mod m (by simp)) (hsb.mod m (by simp)) cA.digits cB hle (by omega))
    have C3 : Hid (valS A ≤ valS B → ∀ w', Mod [] w w' → _) := hide (fun hle w' (m : Mod [] w w') => c_sSub sb sa B A w' (hsb.mod m (by simp)) (hsa.mod m (by simp)) cB.digits cA hle (by omega))
    clear ha hb ex ey ax ay dx dy hcv
    obtain ⟨aa, ca, rfl⟩ := hsa.lit
    obtain ⟨ab, cb, rfl⟩ := hsb.lit
    have H0 := hide (held1_start w ba bb aa ab A.length ca B.length cb)
    by_cases hc : cv < 0
    · have hle := hcn.1 hc
      have C1 := hide (C3.out (by omega))
      have HLE := hide hle
      clear hcn hle C3
      go_enter Tryz.func103, Tryz.ntmps103
      go_wp2_with fail
      refine (C0.out _ (Held1.mod H0.out)).mono ?_
      rintro e w0 ⟨rfl, m0⟩
      have HS := hide (H0.out.keep m0)
      go_wp2_with fail
      go_region_held3 (fun w' => w'.cell? ⟨w.heap.size, 0, none⟩ = some (.bool ba) ∧ w'.cell? ⟨w.heap.size, 1, none⟩ = some (.slice aa A.length ca) ∧ w'.cell? ⟨w.heap.size + 1, 0, none⟩ = some (.bool bb) ∧ w'.cell? ⟨w.heap.size + 1, 1, none⟩ = some (.slice ab B.length cb) ∧ Mod [] w w' ∧ IntBlk w' (w.heap.size + 1 + 1))
        (first | exact Held1.drew HS.out | exact Held1.drew (held1_start w _ _ _ _ _ _ _ _) | exact Held1.keep (l := [(_, _, _), (_, _, _)]) (by assumption) (by assumption) | exact Held1.store (l := [(_, _, _), (_, _, _)]) (by intro x hx; simp only [List.mem_cons, List.not_mem_nil, or_false] at hx; rcases hx with rfl | rfl <;> (dsimp only; omega)) (by omega) (by assumption))
        (first | (go_at_call 23; refine (C1.out _ ?_).mono ?_; exact Held1.mod (l := [(_, _, _), (_, _, _)]) (by assumption); rintro e w1 ⟨v1, L1, rfl, m1, h1, k1, e1, -⟩; have E1 := hide e1; clear e1) | (go_at_call 32; refine (C2.out _ _ _ _ h1 k1).mono ?_; rintro e w2 ⟨v2, rfl, m2, h2⟩; obtain ⟨b2, a2, n2, c2, rfl⟩ := h2.lit; obtain ⟨x2, y2, z2, u2, hb2⟩ := Held1.blk (w := w) (w1 := w1) (l := [(_, _, _), (_, _, _)]) (by assumption); have hm2 := (Held1.mod (w := w) (w1 := w1) (l := [(_, _, _), (_, _, _)]) (by assumption)).then m2; have hb3 := hb2.mod m2 (by simp); obtain ⟨f0, f1, f2, f3⟩ := int_cells hb3))
      have hst := fun c0 c1 => int_stored (c0 := c0) (c1 := c1) hb3 hm2 (show w.heap.size ≤ w.heap.size + 1 + 1 by omega)
      go_wp2_with fail
      refine bodyPost_ret (results_int rfl rfl (hst _ _).2.2) rfl ?_
      exact ⟨_, rfl, (hst _ _).1, by have := h2.set hb3 (hst (.bool b2) (.slice a2 n2 c2)).2.1; rw [← HZ2.out _ E1.out (Nat.le_of_lt HLE.out)]; exact this⟩
    · have hle : valS B ≤ valS A := Nat.le_of_not_lt (fun h => hc (hcn.2 h))
      have C1 := hide (C1.out hle)
      have HLE := hide hle
      clear hcn hle C3
      go_enter Tryz.func103, Tryz.ntmps103
      go_wp2_with fail
      refine (C0.out _ (Held1.mod H0.out)).mono ?_
      rintro e w0 ⟨rfl, m0⟩
      have HS := hide (H0.out.keep m0)
      go_wp2_with fail
      go_region_held3 (fun w' => w'.cell? ⟨w.heap.size, 0, none⟩ = some (.bool ba) ∧ w'.cell? ⟨w.heap.size, 1, none⟩ = some (.slice aa A.length ca) ∧ w'.cell? ⟨w.heap.size + 1, 0, none⟩ = some (.bool bb) ∧ w'.cell? ⟨w.heap.size + 1, 1, none⟩ = some (.slice ab B.length cb) ∧ Mod [] w w' ∧ IntBlk w' (w.heap.size + 1 + 1))
        (first | exact Held1.drew HS.out | exact Held1.drew (held1_start w _ _ _ _ _ _ _ _) | exact Held1.keep (l := [(_, _, _), (_, _, _)]) (by assumption) (by assumption) | exact Held1.store (l := [(_, _, _), (_, _, _)]) (by intro x hx; simp only [List.mem_cons, List.not_mem_nil, or_false] at hx; rcases hx with rfl | rfl <;> (dsimp only; omega)) (by omega) (by assumption))
        (first | (go_at_call 23; refine (C1.out _ ?_).mono ?_; exact Held1.mod (l := [(_, _, _), (_, _, _)]) (by assumption); rintro e w1 ⟨v1, L1, rfl, m1, h1, k1, e1, -⟩; have E1 := hide e1; clear e1) | (go_at_call 32; refine (C2.out _ _ _ _ h1 k1).mono ?_; rintro e w2 ⟨v2, rfl, m2, h2⟩; obtain ⟨b2, a2, n2, c2, rfl⟩ := h2.lit; obtain ⟨x2, y2, z2, u2, hb2⟩ := Held1.blk (w := w) (w1 := w1) (l := [(_, _, _), (_, _, _)]) (by assumption); have hm2 := (Held1.mod (w := w) (w1 := w1) (l := [(_, _, _), (_, _, _)]) (by assumption)).then m2; have hb3 := hb2.mod m2 (by simp); obtain ⟨f0, f1, f2, f3⟩ := int_cells hb3))
      have hst := fun c0 c1 => int_stored (c0 := c0) (c1 := c1) hb3 hm2 (show w.heap.size ≤ w.heap.size + 1 + 1 by omega)
      go_wp2_with fail
      refine bodyPost_ret (results_int rfl rfl (hst _ _).2.2) rfl ?_
      exact ⟨_, rfl, (hst _ _).1, by have := h2.set hb3 (hst (.bool b2) (.slice a2 n2 c2)).2.1; rw [← HZ1.out _ E1.out HLE.out]; exact this⟩
end Go.Proofs.YtkhopfobjijnlaaGreatDoor
