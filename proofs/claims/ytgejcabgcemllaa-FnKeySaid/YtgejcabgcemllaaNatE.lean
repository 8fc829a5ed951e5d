/- Contracts of bigmod's add, sub and assign: a row is written in place. -/
import Derived.Test.YtgejcabgcemllaaNatD
namespace Go.Proofs.Ytgejcabgcemllaa
open Go.RowKit

theorem map_u64_inj : ∀ {A B : List Nat}, A.map u64 = B.map u64 → A = B
  | [], [], _ => rfl
  | [], b :: B, h => by simp at h
  | a :: A, [], h => by simp at h
  | a :: A, b :: B, h => by
    simp only [List.map_cons, List.cons.injEq, Value.int.injEq, true_and] at h
    rw [map_u64_inj h.2, show a = b by omega]

theorem ret_word {a b : Nat} (h : a = b) : u64 a = u64 b := by rw [h]

/-- The words of the second row, read while the first one is written: they may be the same row. -/
theorem read_other {w wr : World} {x y px py k : Nat} {Lx Rx Ly Ry V : List Nat} (hx : NatIs w x px Lx Rx) (hy : NatIs w y py Ly Ry) (hm : Mod [px] w wr)
    (hr : Blk wr px 62 ((V ++ Rx).map u64)) (hl : V.length = Lx.length) (hv : nth V k = nth Lx k) (hk : k < Lx.length) (hk2 : k < Ly.length) :
    wr.cell? ⟨py, k, none⟩ = some (u64 (nth Ly k)) := by
  by_cases e : py = px
  · subst e
    have := map_u64_inj (hx.row.ext hy.row).2
    rw [hr.at k (by simp; omega), nth_append_left (by omega), hv]
    have h2 : nth (Lx ++ Rx) k = nth (Ly ++ Ry) k := by rw [this]
    rw [nth_append_left hk, nth_append_left hk2] at h2
    rw [h2]
  · exact (hy.row.mod hm (by simpa using e)).at k (by simp; omega) |>.trans (by rw [nth_append_left hk2])

theorem NatIs.done {w w' : World} {x p : Nat} {L R V : List Nat} (h : NatIs w x p L R) (hm : Mod [p] w w') (hr : Blk w' p 62 ((V ++ R).map u64)) (hl : V.length = L.length) : NatIs w' x p V R :=
  h.put hl (hm.block x h.xlt (by simpa using h.ne)) hr

theorem row_set {wr : World} {p k v : Nat} {V R : List Nat} (h : Blk wr p 62 ((V ++ R).map u64)) (hk : k < V.length) :
    Blk (wr.setCell ⟨p, k, none⟩ (u64 v)) p 62 ((V.set k v ++ R).map u64) := by
  have := h.set k v
  rwa [List.set_append_left _ _ hk] at this

set_option maxRecDepth 100000 in
set_option maxHeartbeats 1600000 in
theorem c_add (x y px py : Nat) (Lx Rx Ly Ry : List Nat) (w : World) (hx : NatIs w x px Lx Rx) (hy : NatIs w y py Ly Ry) (hlen : Ly.length = Lx.length) (wx : Words Lx) (wy : Words Ly) :
    Calls Try.prog 72 #[ptr x, ptr y] w fun e w' =>
      e = .returned (u64 (addC Lx Ly Lx.length)) ∧ Mod [px] w w' ∧ NatIs w' x px (addL Lx Ly Lx.length) Rx := by
  have hcx := hx.cell
  have hcy := hy.cell
  have hcap := hx.cap
  have hcapy := hy.cap
  rw [hlen] at hcy
  have H1 := hide hlen
  have hle : Lx.length ≤ Lx.length + Ry.length := by omega
  clear hlen
  go_enter Try.func72, Try.ntmps72
  go_wp2_with fail
  go_loopw [4, 8] (fun c i wr => ∃ k : Nat, k ≤ Lx.length ∧ i = i64 k ∧ c = u64 (addC Lx Ly k) ∧ Mod [px] w wr ∧ Blk wr px 62 ((addL Lx Ly k ++ Rx).map u64)) (fun _ i _ => Lx.length - (intOf i).toNat)
  case atStart => exact ⟨0, Nat.zero_le _, rfl, rfl, Mod.refl _ _, hx.row⟩
  case round =>
    obtain ⟨k, hk, rfl, rfl, hm, hr⟩ := hrel
    by_cases hlt : k < Lx.length
    · have h1 : wr.cell? ⟨px, k, none⟩ = some (u64 (nth Lx k)) := by
        rw [hr.at k (by simp [addL_length]; omega), nth_append_left (by rw [addL_length]; exact hlt), addL_at _ _ (Nat.le_refl _)]
      have h2 := read_other hx hy hm hr (addL_length _ _ _) (addL_at _ _ (Nat.le_refl _)) hlt (by rw [H1.out]; exact hlt)
      have h3 := hr.frozen k
      have hc1 := addC_le wx wy k
      have hs : Hid (addHi (nth Lx k) (nth Ly k) (addC Lx Ly k) = addC Lx Ly (k + 1)) := hide rfl
      have hm2 : Mod [px] w (wr.setCell ⟨px, k, none⟩ (u64 (addLo (nth Lx k) (nth Ly k) (addC Lx Ly k)))).drew := (hm.setCell _ _ (by simp)).drew
      have hr2 : Blk (wr.setCell ⟨px, k, none⟩ (u64 (addLo (nth Lx k) (nth Ly k) (addC Lx Ly k)))).drew px 62 ((addL Lx Ly (k + 1) ++ Rx).map u64) :=
        row_set hr (by rw [addL_length]; exact hlt)
      clear hm hr
      go_wp2_with fail
      go_region_with (first | (go_at_call 75; refine (c_Add _ _ _ hc1 _).mono ?_; rintro e w' ⟨rfl, rfl⟩))
      all_goals go_wp2_with fail
      all_goals go_roundw
      all_goals first
        | exact ⟨k + 1, by omega, by go_num, ret_word hs.out, hm2, hr2⟩
        | (simp [intOf]; omega)
    · obtain rfl : k = Lx.length := by omega
      have hfin := hx.done hm hr (addL_length _ _ _)
      go_wp2_with fail
      go_ret
      exact ⟨rfl, hm, hfin⟩

set_option maxRecDepth 100000 in
set_option maxHeartbeats 1600000 in
theorem c_sub (x y px py : Nat) (Lx Rx Ly Ry : List Nat) (w : World) (hx : NatIs w x px Lx Rx) (hy : NatIs w y py Ly Ry) (hlen : Ly.length = Lx.length) :
    Calls Try.prog 78 #[ptr x, ptr y] w fun e w' =>
      e = .returned (u64 (subC Lx Ly Lx.length)) ∧ Mod [px] w w' ∧ NatIs w' x px (subL Lx Ly Lx.length) Rx := by
  have hcx := hx.cell
  have hcy := hy.cell
  have hcap := hx.cap
  have hcapy := hy.cap
  rw [hlen] at hcy
  have H1 := hide hlen
  have hle : Lx.length ≤ Lx.length + Ry.length := by omega
  clear hlen
  go_enter Try.func78, Try.ntmps78
  go_wp2_with fail
  go_loopw [4, 8] (fun c i wr => ∃ k : Nat, k ≤ Lx.length ∧ i = i64 k ∧ c = u64 (subC Lx Ly k) ∧ Mod [px] w wr ∧ Blk wr px 62 ((subL Lx Ly k ++ Rx).map u64)) (fun _ i _ => Lx.length - (intOf i).toNat)
  case atStart => exact ⟨0, Nat.zero_le _, rfl, rfl, Mod.refl _ _, hx.row⟩
  case round =>
    obtain ⟨k, hk, rfl, rfl, hm, hr⟩ := hrel
    by_cases hlt : k < Lx.length
    · have h1 : wr.cell? ⟨px, k, none⟩ = some (u64 (nth Lx k)) := by
        rw [hr.at k (by simp [subL_length]; omega), nth_append_left (by rw [subL_length]; exact hlt), subL_at _ _ (Nat.le_refl _)]
      have h2 := read_other hx hy hm hr (subL_length _ _ _) (subL_at _ _ (Nat.le_refl _)) hlt (by rw [H1.out]; exact hlt)
      have h3 := hr.frozen k
      have hc1 := subC_le Lx Ly k
      have hs : Hid (subHi (nth Lx k) (nth Ly k) (subC Lx Ly k) = subC Lx Ly (k + 1)) := hide rfl
      have hm2 : Mod [px] w (wr.setCell ⟨px, k, none⟩ (u64 (subLo (nth Lx k) (nth Ly k) (subC Lx Ly k)))).drew := (hm.setCell _ _ (by simp)).drew
      have hr2 : Blk (wr.setCell ⟨px, k, none⟩ (u64 (subLo (nth Lx k) (nth Ly k) (subC Lx Ly k)))).drew px 62 ((subL Lx Ly (k + 1) ++ Rx).map u64) :=
        row_set hr (by rw [subL_length]; exact hlt)
      clear hm hr
      go_wp2_with fail
      go_region_with (first | (go_at_call 69; refine (c_Sub _ _ _ hc1 _).mono ?_; rintro e w' ⟨rfl, rfl⟩))
      all_goals go_wp2_with fail
      all_goals go_roundw
      all_goals first
        | exact ⟨k + 1, by omega, by go_num, ret_word hs.out, hm2, hr2⟩
        | (simp [intOf]; omega)
    · obtain rfl : k = Lx.length := by omega
      have hfin := hx.done hm hr (subL_length _ _ _)
      go_wp2_with fail
      go_ret
      exact ⟨rfl, hm, hfin⟩

end Go.Proofs.Ytgejcabgcemllaa
