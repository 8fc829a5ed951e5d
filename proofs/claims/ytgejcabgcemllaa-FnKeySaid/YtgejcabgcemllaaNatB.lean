/- Contracts of bigmod's set, expand, ExpandFor, resetting by copies. -/
import Derived.Test.YtgejcabgcemllaaNatA
namespace Go.Proofs.Ytgejcabgcemllaa
open Go.RowKit

theorem take_copy (L R M : List Nat) (h : M.length = L.length) : (((L ++ R).take 0 ++ M ++ (L ++ R).drop (0 + M.length))) = M ++ R := by
  rw [Nat.zero_add, h, List.drop_left]
  simp

/-- copy(x.limbs, y) where both have as many words. -/
theorem copy_nat {w : World} {x p q : Nat} {L R M Q : List Nat} (h : NatIs w x p L R) (hq : Blk w q 62 ((M ++ Q).map u64)) (hl : M.length = L.length) (c c' : Nat) (ts : Nat) :
    ∃ w1, (∀ ty, (Builtin.copy_ #[61, ts] ty #[sl p 0 L.length c, sl q 0 M.length c']).run Try.prog w = .ok (goInt M.length) w1) ∧ Mod [p] w w1 ∧ NatIs w1 x p M R := by
  have hsrc : ∀ j v, (M.map u64)[j]? = some v → w.cell? ((⟨q, 0, none⟩ : Addr).add j) = some v := by
    intro j v hj
    rw [add_addr, Nat.zero_add]
    have hjl : j < M.length := by simpa using (List.getElem?_eq_some_iff.1 hj).1
    rw [map_get hjl] at hj
    rw [hq.at j (by simp; omega), nth_append_left hjl]
    exact hj
  have hrun := fun ty => run_copy_cells (P := Try.prog) (ty := ty) (t' := ts) Try.underlying61 size_uint h.row 0 L.length c ⟨q, 0, none⟩ M.length c' (us := M.map u64) (by simp [hl]) hsrc (by simp; omega)
    (oneCell_map u64 (fun _ => rfl) M)
  simp only [List.length_map] at hrun
  have hs : splice' ((L ++ R).map u64) (M.map u64) 0 = (M ++ R).map u64 := by rw [splice_map, take_copy L R M hl]
  rw [hs] at hrun
  exact ⟨_, hrun, (Mod.refl _ w).setRow _ _ (by simp), h.put hl (Go.setRow_other _ _ _ _ h.ne) (h.row.setRow _)⟩

set_option maxRecDepth 100000 in
set_option maxHeartbeats 1600000 in
theorem c_set (x p y q : Nat) (L R M Q : List Nat) (w : World) (h : NatIs w x p L R) (hy : NatIs w y q M Q) (h1 : y ≠ x) (h2 : y ≠ p) (h3 : q ≠ x) (h4 : q ≠ p) :
    Calls Try.prog 59 #[ptr x, ptr y] w fun e w' =>
      ∃ p' R', e = .returned (ptr x) ∧ Mod [x, p] w w' ∧ NatIs w' x p' M R' ∧ Kept w p p' := by
  have hc := hy.cell
  have hcap := hy.cap
  go_enter Try.func59, Try.ntmps59
  go_wp2_with fail
  refine (c_reset x p M.length L R _ h (by omega)).mono ?_
  rintro e w1 ⟨p', R', rfl, hm1, hx1, hk1⟩
  have hy1 := hy.mod hm1 (by simp [h1, h2]) (by simp [h3, h4])
  have hq : q < w.heap.size := hy.plt
  obtain ⟨w2, hcp, hm2, hx2⟩ := copy_nat hx1.drew hy1.drew.row (by simp) ((List.replicate M.length 0).length + R'.length) (M.length + Q.length) 61
  have hc1 := hx1.cell
  have hc2 := hy1.cell
  simp only [List.length_replicate] at hcp hc1
  have hm3 : Mod [x, p] w w2 := Mod.trans (U := [x, p]) hm1 hm2.ofDrew (fun a ha _ => ha) (fun a ha hlt => by
    rcases hk1 with hk | hk
    · simp at ha; simp [ha, hk]
    · simp at ha; omega)
  clear hm2 hm1
  go_wp2_with fail
  go_region_with (fail)
  all_goals go_wp2
  all_goals go_ret
  all_goals exact ⟨p', R', rfl, hm3, hx2, hk1⟩

end Go.Proofs.Ytgejcabgcemllaa
