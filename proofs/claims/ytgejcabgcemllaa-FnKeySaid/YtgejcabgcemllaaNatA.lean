/- bigmod's Nat in memory, and contracts of NewNat, reset, set, expand, trim. -/
import Derived.Test.YtgejcabgcemllaaLeafB
namespace Go.Proofs.Ytgejcabgcemllaa
open Go.RowKit

/-- Block x is a Nat whose announced words are L, with R behind them up to the capacity; the words lie in block p. -/
structure NatIs (w : World) (x p : Nat) (L R : List Nat) : Prop where
  head : Blk w x 100 [sl p 0 L.length (L.length + R.length)]
  row : Blk w p 62 ((L ++ R).map u64)
  cap : L.length + R.length ≤ 100000

theorem NatIs.cell {w : World} {x p : Nat} {L R : List Nat} (h : NatIs w x p L R) : w.cell? ⟨x, 0, none⟩ = some (sl p 0 L.length (L.length + R.length)) := by
  rw [h.head.cell]; rfl
theorem NatIs.ne {w : World} {x p : Nat} {L R : List Nat} (h : NatIs w x p L R) : x ≠ p := h.head.ne h.row (by decide)
theorem NatIs.xlt {w : World} {x p : Nat} {L R : List Nat} (h : NatIs w x p L R) : x < w.heap.size := h.head.lt
theorem NatIs.plt {w : World} {x p : Nat} {L R : List Nat} (h : NatIs w x p L R) : p < w.heap.size := h.row.lt
theorem NatIs.mod {w w' : World} {x p : Nat} {L R S : List Nat} (h : NatIs w x p L R) (m : Mod S w w') (hx : x ∉ S) (hp : p ∉ S) : NatIs w' x p L R :=
  ⟨h.head.mod m hx, h.row.mod m hp, h.cap⟩
theorem NatIs.drew {w : World} {x p : Nat} {L R : List Nat} (h : NatIs w x p L R) : NatIs w.drew x p L R := ⟨h.head, h.row, h.cap⟩
theorem NatIs.drewN {w : World} {x p : Nat} {L R : List Nat} (h : NatIs w x p L R) (n : Nat) : NatIs (w.drewN n) x p L R := ⟨h.head, h.row, h.cap⟩
/-- A word that is announced. -/
theorem NatIs.at {w : World} {x p : Nat} {L R : List Nat} (h : NatIs w x p L R) (i : Nat) (hi : i < L.length) : w.cell? ⟨p, i, none⟩ = some (u64 (nth L i)) := by
  rw [h.row.at i (by simp; omega), nth_append_left hi]
/-- The words exchanged: another row of as many words. -/
theorem NatIs.put {w w' : World} {x p : Nat} {L R L' : List Nat} (h : NatIs w x p L R) (hl : L'.length = L.length) (hx : w'.heap[x]? = w.heap[x]?)
    (hr : Blk w' p 62 ((L' ++ R).map u64)) : NatIs w' x p L' R := by
  refine ⟨?_, hr, by rw [hl]; exact h.cap⟩
  unfold Blk
  rw [hx, hl]
  exact h.head

theorem zero_uint (w : World) : (zeroValue 62).run Try.prog w = .ok (.int .u64 0) w := by kernel_rfl
theorem info_uint : (Try.prog.info? 62).map (fun i => (i.zero, i.size, i.bytes)) = some (some (.int .u64 0), 1, 8) := by kernel_rfl
theorem size_uint : (Try.prog.info? 62).map (·.size) = some 1 := by kernel_rfl
theorem make_uint (n c : Nat) (hnc : n ≤ c) (hc : c ≤ 17000000) (w : World) :
    (Instr.makeSlice 61 (.int .i64 n) (.int .i64 c)).run Try.prog w = .ok (sl w.heap.size 0 n c) (w.alloc (.cells ((List.replicate c 0).map u64).toArray 62)) := by
  rw [run_make_row (z := .int .u64 0) rfl Try.underlying61 info_uint (by omega) n c hnc hc w]
  simp [u64]

set_option maxRecDepth 100000 in
theorem c_NewNat (w : World) : Calls Try.prog 45 #[] w fun e w' =>
    ∃ x p, e = .returned (ptr x) ∧ Mod [] w w' ∧ NatIs w' x p [] (List.replicate 32 0) ∧ w.heap.size ≤ x ∧ w.heap.size ≤ p := by
  have hmk := make_uint 0 32 (by omega) (by omega)
  generalize hrow : ((List.replicate 32 0).map u64).toArray = row at hmk
  have Hrow := hide hrow
  clear hrow
  have hmk0 : ∀ w, (Instr.makeSlice 61 (.int .i64 0) (.int .i64 32)).run Try.prog w = .ok (sl w.heap.size 0 0 32) (w.alloc (.cells row 62)) := hmk
  clear hmk
  go_enter Try.func45, Try.ntmps45
  go_wp2
  go_ret
  refine ⟨_, w.heap.size, rfl, ((Mod.refl [] w).alloc _).alloc _, ⟨?_, ?_, by simp⟩, by simp, by simp⟩
  · have := Blk.new (w.alloc (.cells row 62)) 100 [sl w.heap.size 0 0 32]
    simpa using this
  · rw [← Hrow.out]
    exact (Blk.new w _ _).alloc _

/-- A row is either where it was or new. -/
def Kept (w : World) (p p' : Nat) : Prop := p' = p ∨ w.heap.size ≤ p'

theorem splice_zero (L R : List Nat) (n m : Nat) (hn : n ≤ m) :
    splice' ((L ++ R).map u64) (List.replicate m (.int .u64 0)) 0 = ((List.replicate n 0) ++ (List.replicate (m - n) 0 ++ (L ++ R).drop m)).map u64 := by
  unfold splice'
  rw [← List.append_assoc, List.replicate_append_replicate]
  rw [show n + (m - n) = m by omega]
  simp [List.map_drop]

theorem clear_nat {w : World} {x p : Nat} {L R : List Nat} (h : NatIs w x p L R) (n m : Nat) (hnm : n ≤ m) (hm : m ≤ L.length + R.length) :
    ∃ w1, (∀ ty, (Builtin.clear_ #[61] ty #[sl p 0 m (L.length + R.length)]).run Try.prog w = .ok (.tuple #[]) w1) ∧ Mod [p] w w1 ∧
      Blk w1 x 100 [sl p 0 L.length (L.length + R.length)] ∧ Blk w1 p 62 ((List.replicate n 0 ++ (List.replicate (m - n) 0 ++ (L ++ R).drop m)).map u64) := by
  refine ⟨_, fun ty => run_clear_row (ty := ty) (z := .int .u64 0) rfl rfl Try.underlying61 zero_uint h.row 0 m (L.length + R.length) (by simp; omega), (Mod.refl _ w).setRow _ _ (by simp),
    h.head.setRow_other _ _ h.ne, ?_⟩
  have := h.row.splice (List.replicate m (.int .u64 0)) 0
  rwa [splice_zero L R n m hnm] at this ⊢

theorem blk_cell0 {w : World} {b T : Nat} {v : Value} (h : Blk w b T [v]) : w.cell? ⟨b, 0, none⟩ = some v := by rw [h.cell]; rfl

set_option maxRecDepth 100000 in
set_option maxHeartbeats 1600000 in
theorem c_reset (x p n : Nat) (L R : List Nat) (w : World) (h : NatIs w x p L R) (hn : n ≤ 100000) :
    Calls Try.prog 52 #[ptr x, i64 n] w fun e w' =>
      ∃ p' R', e = .returned (ptr x) ∧ Mod [x, p] w w' ∧ NatIs w' x p' (List.replicate n 0) R' ∧ Kept w p p' := by
  have hc := h.cell
  have hf := h.head.frozen 0
  have hlt := h.xlt
  have hcap := h.cap
  by_cases hlt : L.length + R.length < n
  · have hmk := make_uint n n (by omega) (by omega)
    generalize hrow : ((List.replicate n 0).map u64).toArray = row at hmk
    have Hrow := hide hrow
    clear hrow
    go_enter Try.func52, Try.ntmps52
    go_wp2
    go_ret
    refine ⟨w.heap.size, [], rfl, ((Mod.refl _ w).setCell _ _ (by simp)).alloc _, ⟨?_, ?_, by simp; omega⟩, .inr (by omega)⟩
    · have := (h.head.setCell 0 (sl w.heap.size 0 n n)).alloc (.cells row 62)
      simpa using this
    · rw [← Hrow.out]
      have := Blk.new (w.setCell ⟨x, 0, none⟩ (sl w.heap.size 0 n n)) 62 ((List.replicate n 0).map u64)
      simpa using this
  · obtain ⟨m, hm⟩ : ∃ m, m = max n L.length := ⟨_, rfl⟩
    obtain ⟨w1, hcl, hm1, hx1, hp1⟩ := clear_nat h.drew n m (by omega) (by omega)
    have hc1 := blk_cell0 hx1
    have hf1 := hx1.frozen 0
    have hm1' : Mod [p] w w1 := ⟨hm1.os, hm1.tape, hm1.output, hm1.size, hm1.block⟩
    clear hm1
    have hfin : NatIs (w1.setCell ⟨x, 0, none⟩ (sl p 0 n (L.length + R.length))) x p (List.replicate n 0) (List.replicate (m - n) 0 ++ (L ++ R).drop m) := by
      refine ⟨?_, hp1.setCell_other _ _ (by simpa using h.ne.symm), by simp; omega⟩
      have := hx1.setCell 0 (sl p 0 n (L.length + R.length))
      have e : (List.replicate n 0).length + (List.replicate (m - n) 0 ++ (L ++ R).drop m).length = L.length + R.length := by simp; omega
      rw [e]
      simpa using this
    have hmod : Mod [x, p] w (w1.setCell ⟨x, 0, none⟩ (sl p 0 n (L.length + R.length))) :=
      (hm1'.mono (by simp)).setCell _ _ (by simp)
    rcases Nat.lt_or_ge n L.length with hnl | hnl
    · obtain rfl : m = L.length := by omega
      clear hm
      go_enter Try.func52, Try.ntmps52
      go_wp2
      go_region_with (fail)
      all_goals go_wp2
      all_goals go_ret
      all_goals exact ⟨p, _, rfl, hmod, hfin, .inl rfl⟩
    · obtain rfl : m = n := by omega
      clear hm
      go_enter Try.func52, Try.ntmps52
      go_wp2
      go_region_with (fail)
      all_goals go_wp2
      all_goals go_ret
      all_goals exact ⟨p, _, rfl, hmod, hfin, .inl rfl⟩

end Go.Proofs.Ytgejcabgcemllaa
