/- Blocks that hold whole numbers with a sign: plain laws. -/
import Derived.Test.YtkhopfobjijnlaaGreatDoorM22
import Derived.Test.YtkhopfobjijnlaaGreatDoorM38
set_option linter.all false
set_option exponentiation.threshold 7000000
namespace Go.Proofs.YtkhopfobjijnlaaGreatDoor
open Go.RowKit

/-- A block that holds a number with its sign. -/
def IntBox (w : World) (p : Nat) (z : Int) : Prop := ∃ b a n c, Blk w p 67 [.bool b, .slice a n c] ∧ IntIs w (.agg #[.bool b, .slice a n c]) z
theorem IntBox.up {w w' : World} {p : Nat} {z : Int} (h : IntBox w p z) (m : Mod [] w w') : IntBox w' p z := by
  obtain ⟨b, a, n, c, h1, h2⟩ := h
  exact ⟨b, a, n, c, blk_up h1 m, h2.mod m⟩
theorem IntBox.lt {w : World} {p : Nat} {z : Int} (h : IntBox w p z) : p < w.heap.size := by
  obtain ⟨b, a, n, c, h1, h2⟩ := h
  exact h1.lt
theorem IntBox.blk {w : World} {p : Nat} {z : Int} (h : IntBox w p z) : IntBlk w p := by
  obtain ⟨b, a, n, c, h1, h2⟩ := h
  exact ⟨_, _, _, _, h1⟩
/-- The world behind a store of a number. -/
abbrev putInt (w : World) (p : Nat) (b : Bool) (a : Option Addr) (n c : Nat) : World := (w.setCell ⟨p, 0, none⟩ (.bool b)).setCell ⟨p, 1, none⟩ (.slice a n c)
theorem putInt_mod {w0 w : World} {p : Nat} {b : Bool} {a : Option Addr} {n c : Nat} (m : Mod [] w0 w) (hp : w0.heap.size ≤ p) : Mod [] w0 (putInt w p b a n c) := mod_store m hp
theorem IntIs.put {w : World} {p : Nat} {b : Bool} {a : Option Addr} {n c : Nat} {v : Value} {z : Int} (h : IntIs w v z) (hp : IntBlk w p) : IntIs (putInt w p b a n c) v z := by
  obtain ⟨x, a', n', c', hb⟩ := hp
  exact h.set hb (((Mod.refl [p] w).setCell ⟨p, 0, none⟩ (.bool b) (by simp)).setCell ⟨p, 1, none⟩ (.slice a n c) (by simp))
theorem IntBox.putSame {w : World} {p : Nat} {b : Bool} {a : Option Addr} {n c : Nat} {z : Int} (h : IntIs w (.agg #[.bool b, .slice a n c]) z) (hp : IntBlk w p) : IntBox (putInt w p b a n c) p z := by
  have h2 := h.put (b := b) (a := a) (n := n) (c := c) hp
  obtain ⟨x, a', n', c', hb⟩ := hp
  exact ⟨b, a, n, c, (hb.setCell 0 (.bool b)).setCell 1 (.slice a n c), h2⟩
theorem IntBox.put {w : World} {p q : Nat} {b : Bool} {a : Option Addr} {n c : Nat} {z : Int} (h : IntBox w q z) (hp : IntBlk w p) (hq : q ≠ p) : IntBox (putInt w p b a n c) q z := by
  obtain ⟨b', a', n', c', h1, h2⟩ := h
  exact ⟨b', a', n', c', (h1.setCell_other _ _ hq).setCell_other _ _ hq, h2.put hp⟩
theorem IntBlk.put {w : World} {p q : Nat} {b : Bool} {a : Option Addr} {n c : Nat} (h : IntBlk w q) : IntBlk (putInt w p b a n c) q := h.store
theorem SliceK.put {w : World} {p : Nat} {b : Bool} {a : Option Addr} {n c : Nat} {v : Value} {L : List Nat} (h : SliceK i64 w v L) (hp : IntBlk w p) : SliceK i64 (putInt w p b a n c) v L := by
  obtain ⟨x, a', n', c', hb⟩ := hp
  exact h.setInt hb (by intro k; simp) (((Mod.refl [p] w).setCell ⟨p, 0, none⟩ (.bool b) (by simp)).setCell ⟨p, 1, none⟩ (.slice a n c) (by simp))
theorem intBlk_new (w : World) : IntBlk (w.alloc (.cells #[.bool false, .slice none 0 0] 67)) w.heap.size := ⟨_, _, _, _, Blk.new w _ [.bool false, .slice none 0 0]⟩
theorem intBox_new {w : World} {b : Bool} {a : Option Addr} {n c : Nat} {z : Int} (h : IntIs w (.agg #[.bool b, .slice a n c]) z) : IntBox (w.alloc (.cells #[.bool b, .slice a n c] 67)) w.heap.size z :=
  ⟨b, a, n, c, Blk.new w _ [.bool b, .slice a n c], h.mod ((Mod.refl [] w).alloc _)⟩
theorem intBox_new2 {w : World} {p : Nat} {b : Bool} {a : Option Addr} {n c : Nat} {z : Int} (hp : p = w.heap.size) (h : IntIs w (.agg #[.bool b, .slice a n c]) z) : IntBox (w.alloc (.cells #[.bool b, .slice a n c] 67)) p z := hp ▸ intBox_new h
theorem intBlk_new2 {w : World} {p : Nat} {b : Bool} {a : Option Addr} {n c : Nat} (hp : p = w.heap.size) : IntBlk (w.alloc (.cells #[.bool b, .slice a n c] 67)) p := hp ▸ ⟨_, _, _, _, Blk.new w _ [.bool b, .slice a n c]⟩
theorem IntBlk.of {w : World} {p : Nat} {b : Bool} {a : Option Addr} {n c : Nat} (h : Blk w p 67 [.bool b, .slice a n c]) : IntBlk w p := ⟨_, _, _, _, h⟩
theorem Blk.put {w : World} {p q T : Nat} {vs : List Value} {b : Bool} {a : Option Addr} {n c : Nat} (h : Blk w q T vs) (hq : q ≠ p) : Blk (putInt w p b a n c) q T vs := (h.setCell_other _ _ hq).setCell_other _ _ hq
/-- Two new blocks, filled one behind the other. -/
theorem int_new2 {w : World} {b1 b2 : Bool} {a1 a2 : Option Addr} {n1 c1 n2 c2 : Nat} {z1 z2 : Int} (h1 : IntIs w (.agg #[.bool b1, .slice a1 n1 c1]) z1) (h2 : IntIs w (.agg #[.bool b2, .slice a2 n2 c2]) z2) :
    Mod [] w (putInt (putInt ((w.alloc (.cells #[.bool false, .slice none 0 0] 67)).alloc (.cells #[.bool false, .slice none 0 0] 67)) w.heap.size b1 a1 n1 c1) (w.heap.size + 1) b2 a2 n2 c2) ∧
    IntBox (putInt (putInt ((w.alloc (.cells #[.bool false, .slice none 0 0] 67)).alloc (.cells #[.bool false, .slice none 0 0] 67)) w.heap.size b1 a1 n1 c1) (w.heap.size + 1) b2 a2 n2 c2) w.heap.size z1 ∧
    IntBox (putInt (putInt ((w.alloc (.cells #[.bool false, .slice none 0 0] 67)).alloc (.cells #[.bool false, .slice none 0 0] 67)) w.heap.size b1 a1 n1 c1) (w.heap.size + 1) b2 a2 n2 c2) (w.heap.size + 1) z2 := by
  have m : Mod [] w ((w.alloc (.cells #[.bool false, .slice none 0 0] 67)).alloc (.cells #[.bool false, .slice none 0 0] 67)) := ((Mod.refl [] w).alloc _).alloc _
  have k1 := (intBlk_new w).mod ((Mod.refl [] _).alloc (.cells #[.bool false, .slice none 0 0] 67))
  have k2 := intBlk_new (w.alloc (.cells #[.bool false, .slice none 0 0] 67))
  rw [World.size_alloc] at k2
  refine ⟨putInt_mod (putInt_mod m (Nat.le_refl _)) (Nat.le_succ _), ?_, ?_⟩
  · exact (IntBox.putSame (h1.mod m) k1).put k2.put (by omega)
  · exact IntBox.putSame ((h2.mod m).put k1) k2.put
theorem new2_cells (w : World) :
    (let w' := ((w.alloc (.cells #[.bool false, .slice none 0 0] 67)).alloc (.cells #[.bool false, .slice none 0 0] 67))
     (w'.cell? ⟨w.heap.size, 0, none⟩ = some (.bool false) ∧ w'.cell? ⟨w.heap.size, 1, none⟩ = some (.slice none 0 0) ∧ w'.frozen? ⟨w.heap.size, 0, none⟩ = false ∧ w'.frozen? ⟨w.heap.size, 1, none⟩ = false) ∧
     (w'.cell? ⟨w.heap.size + 1, 0, none⟩ = some (.bool false) ∧ w'.cell? ⟨w.heap.size + 1, 1, none⟩ = some (.slice none 0 0) ∧ w'.frozen? ⟨w.heap.size + 1, 0, none⟩ = false ∧ w'.frozen? ⟨w.heap.size + 1, 1, none⟩ = false)) := by
  have h1 := (Blk.new w 67 [.bool false, .slice none 0 0]).alloc (.cells #[.bool false, .slice none 0 0] 67)
  have h2 := Blk.new (w.alloc (.cells #[.bool false, .slice none 0 0] 67)) 67 [.bool false, .slice none 0 0]
  rw [World.size_alloc] at h2
  exact ⟨int_cells h1, int_cells h2⟩
end Go.Proofs.YtkhopfobjijnlaaGreatDoor
