/- Contracts of bigmod's expand and ExpandFor; the head of a Modulus. -/
import Derived.Test.YtgejcabgcemllaaNatB
namespace Go.Proofs.Ytgejcabgcemllaa
open Go.RowKit

/-- Block m is a Modulus: its number's block, whether it is odd, its word, its R*R. -/
abbrev MHead (w : World) (m x : Nat) (odd : Bool) (k : Nat) (r : Value) : Prop := Blk w m 104 [ptr x, .bool odd, u64 k, r]
theorem MHead.c0 {w : World} {m x k : Nat} {odd : Bool} {r : Value} (h : MHead w m x odd k r) : w.cell? ⟨m, 0, none⟩ = some (ptr x) := by rw [Blk.cell h]; rfl
theorem MHead.c1 {w : World} {m x k : Nat} {odd : Bool} {r : Value} (h : MHead w m x odd k r) : w.cell? ⟨m, 1, none⟩ = some (.bool odd) := by rw [Blk.cell h]; rfl
theorem MHead.c2 {w : World} {m x k : Nat} {odd : Bool} {r : Value} (h : MHead w m x odd k r) : w.cell? ⟨m, 2, none⟩ = some (u64 k) := by rw [Blk.cell h]; rfl
theorem MHead.c3 {w : World} {m x k : Nat} {odd : Bool} {r : Value} (h : MHead w m x odd k r) : w.cell? ⟨m, 3, none⟩ = some r := by rw [Blk.cell h]; rfl

/-- L with zeros behind it, n words in all. -/
def padTo (L : List Nat) (n : Nat) : List Nat := L ++ List.replicate (n - L.length) 0
theorem padTo_length {L : List Nat} {n : Nat} (h : L.length ≤ n) : (padTo L n).length = n := by simp [padTo]; omega
theorem padTo_val (L : List Nat) (n : Nat) : val (padTo L n) = val L := by simp [padTo, val_append, val_replicate0]
theorem padTo_words {L : List Nat} (h : Words L) (n : Nat) : Words (padTo L n) := h.append (Words.replicate0 _)
theorem padTo_nil (n : Nat) : padTo [] n = List.replicate n 0 := by simp [padTo]

theorem clear_tail {w : World} {x p : Nat} {L R : List Nat} (h : NatIs w x p L R) (n : Nat) (h2 : n ≤ L.length + R.length) (c : Nat) :
    ∃ w1, (∀ ty, (Builtin.clear_ #[61] ty #[sl p L.length (n - L.length) c]).run Try.prog w = .ok (.tuple #[]) w1) ∧ Mod [p] w w1 ∧
      Blk w1 x 100 [sl p 0 L.length (L.length + R.length)] ∧ Blk w1 p 62 ((padTo L n ++ R.drop (n - L.length)).map u64) := by
  have hs : splice' ((L ++ R).map u64) (List.replicate (n - L.length) (.int .u64 0)) L.length = (padTo L n ++ R.drop (n - L.length)).map u64 := by
    have e : List.replicate (n - L.length) (Value.int .u64 0) = (List.replicate (n - L.length) 0).map u64 := by simp [u64]
    rw [e, splice_map]
    congr 1
    rw [List.take_left' rfl, List.length_replicate, List.drop_append]
    simp [padTo]
  refine ⟨_, fun ty => run_clear_row (ty := ty) (z := .int .u64 0) rfl rfl Try.underlying61 zero_uint h.row L.length (n - L.length) c (by simp; omega), (Mod.refl _ w).setRow _ _ (by simp),
    h.head.setRow_other _ _ h.ne, ?_⟩
  rw [hs]
  exact h.row.setRow _

theorem clear_none {w : World} (a : Option Addr) (c : Nat) (ty : Nat) : (Builtin.clear_ #[61] ty #[.slice a 0 c]).run Try.prog w = .ok (.tuple #[]) w := by
  cases a <;> simp [Builtin.clear_, run_underlying Try.underlying61]

/-- The head of a Nat turned to another row or length. -/
theorem NatIs.reslice {w : World} {x p : Nat} {L R : List Nat} (hx : Blk w x 100 [sl p 0 L.length (L.length + R.length)]) {L' R' : List Nat} {p' : Nat}
    (hp : Blk w p' 62 ((L' ++ R').map u64)) (hne : p' ≠ x) {c : Nat} (hc : c = L'.length + R'.length) (hcap : c ≤ 100000) {n : Nat} (hn : n = L'.length) :
    NatIs (w.setCell ⟨x, 0, none⟩ (sl p' 0 n c)) x p' L' R' := by
  subst hc hn
  refine ⟨?_, hp.setCell_other _ _ hne, hcap⟩
  have := hx.setCell 0 (sl p' 0 L'.length (L'.length + R'.length))
  simpa using this

set_option maxRecDepth 100000 in
set_option maxHeartbeats 1600000 in
theorem c_expand_room (x p n : Nat) (L R : List Nat) (w : World) (h : NatIs w x p L R) (h1 : L.length ≤ n) (h2 : n ≤ L.length + R.length) (hr : 0 < R.length) :
    Calls Try.prog 71 #[ptr x, i64 n] w fun e w' =>
      ∃ p' R', e = .returned (ptr x) ∧ Mod [x, p] w w' ∧ NatIs w' x p' (padTo L n) R' ∧ Kept w p p' := by
  have hc := h.cell
  have hcap := h.cap
  have g1 : ¬ L.length + R.length = L.length := by omega
  go_enter Try.func71, Try.ntmps71
  go_wp2_with fail
  go_quiet (fail)
  obtain ⟨w1, hcl, hm1, hx1, hp1⟩ := clear_tail (h.drewN nq) n h2 (L.length + R.length - L.length)
  have hc1 := blk_cell0 hx1
  have hf1 := hx1.frozen 0
  have hfin := NatIs.reslice hx1 hp1 h.ne.symm (c := L.length + R.length) (by rw [padTo_length h1]; simp; omega) hcap (n := n) (padTo_length h1).symm
  have hmod : Mod [x, p] w (w1.setCell ⟨x, 0, none⟩ (sl p 0 n (L.length + R.length))) := (hm1.ofDrewN.mono (by simp)).setCell _ _ (by simp)
  clear hm1
  rw [show L.length + R.length - L.length = R.length by omega] at hcl
  go_wp2_with fail
  go_ret
  exact ⟨p, _, rfl, hmod, hfin, .inl rfl⟩

set_option maxRecDepth 100000 in
set_option maxHeartbeats 1600000 in
theorem c_expand_full (x p : Nat) (L : List Nat) (w : World) (h : NatIs w x p L []) :
    Calls Try.prog 71 #[ptr x, i64 L.length] w fun e w' =>
      ∃ p' R', e = .returned (ptr x) ∧ Mod [x, p] w w' ∧ NatIs w' x p' (padTo L L.length) R' ∧ Kept w p p' := by
  have hc := h.cell
  have hcap := h.cap
  have hf := h.head.frozen 0
  have hcl := fun (w : World) (a : Option Addr) (c ty : Nat) => clear_none (w := w) a c ty
  have hfin : NatIs (w.setCell ⟨x, 0, none⟩ (sl p 0 L.length L.length)) x p (padTo L L.length) [] := by
    have := NatIs.reslice (L' := padTo L L.length) (R' := []) (c := L.length) (n := L.length) h.head (by simpa [padTo] using h.row) h.ne.symm (by simp [padTo]) (by simpa using hcap) (by simp [padTo])
    exact this
  simp only [List.length_nil, Nat.add_zero] at hc hcap
  have hmod : Mod [x, p] w (w.setCell ⟨x, 0, none⟩ (sl p 0 L.length L.length)) := (Mod.refl _ w).setCell _ _ (by simp)
  go_enter Try.func71, Try.ntmps71
  go_wp2_with fail
  go_quiet (fail)
  go_wp2_with fail
  go_ret
  exact ⟨p, _, rfl, hmod.drewN _, hfin.drewN _, .inl rfl⟩

/-- copy(d, s) of words, s no longer than d. -/
theorem copy_rows {w : World} {b q : Nat} {V M Q : List Nat} (hb : Blk w b 62 (V.map u64)) (hq : Blk w q 62 ((M ++ Q).map u64)) (hl : M.length ≤ V.length) (dc c' : Nat) (ts : Nat) :
    ∃ w1, (∀ ty, (Builtin.copy_ #[61, ts] ty #[sl b 0 V.length dc, sl q 0 M.length c']).run Try.prog w = .ok (goInt M.length) w1) ∧ Mod [b] w w1 ∧ Blk w1 b 62 ((M ++ V.drop M.length).map u64) := by
  have hsrc : ∀ j v, (M.map u64)[j]? = some v → w.cell? ((⟨q, 0, none⟩ : Addr).add j) = some v := by
    intro j v hj
    rw [add_addr, Nat.zero_add]
    have hjl : j < M.length := by simpa using (List.getElem?_eq_some_iff.1 hj).1
    rw [map_get hjl] at hj
    rw [hq.at j (by simp; omega), nth_append_left hjl]
    exact hj
  have hrun := fun ty => run_copy_cells (P := Try.prog) (ty := ty) (t' := ts) Try.underlying61 size_uint hb 0 V.length dc ⟨q, 0, none⟩ M.length c' (us := M.map u64) (by rw [List.length_map]; exact (Nat.min_eq_left hl).symm) hsrc (by simp; omega)
    (oneCell_map u64 (fun _ => rfl) M)
  simp only [List.length_map] at hrun
  have hs : splice' (V.map u64) (M.map u64) 0 = (M ++ V.drop M.length).map u64 := by rw [splice_map]; simp
  rw [hs] at hrun
  exact ⟨_, hrun, (Mod.refl _ w).setRow _ _ (by simp), hb.setRow _⟩

set_option maxRecDepth 100000 in
set_option maxHeartbeats 1600000 in
theorem c_expand_grow (x p n : Nat) (L R : List Nat) (w : World) (h : NatIs w x p L R) (h2 : L.length + R.length < n) (hn : n ≤ 100000) :
    Calls Try.prog 71 #[ptr x, i64 n] w fun e w' =>
      ∃ p' R', e = .returned (ptr x) ∧ Mod [x, p] w w' ∧ NatIs w' x p' (padTo L n) R' ∧ Kept w p p' := by
  have hc := h.cell
  have hcap := h.cap
  have hf := h.head.frozen 0
  have hxlt := h.xlt
  have hmk := make_uint n n (by omega) (by omega)
  generalize hrow : ((List.replicate n 0).map u64).toArray = row at hmk
  have hnew : Blk (w.alloc (.cells row 62)) w.heap.size 62 ((List.replicate n 0).map u64) := by rw [← hrow]; exact Blk.new w _ _
  obtain ⟨w1, hcp, hm1, hp1⟩ := copy_rows hnew (h.row.alloc _) (by simp; omega) n (L.length + R.length) 61
  rw [List.length_replicate] at hcp
  have hx1 : Blk w1 x 100 [sl p 0 L.length (L.length + R.length)] := (h.head.alloc _).mod hm1 (by simp; omega)
  have hc1 := blk_cell0 hx1
  have hf1 := hx1.frozen 0
  have hp2 : Blk w1 w.heap.size 62 ((padTo L n ++ []).map u64) := by
    have e : L ++ (List.replicate n 0).drop L.length = padTo L n ++ [] := by simp [padTo]
    rwa [e] at hp1
  have hm2 : Mod [x, p] w (w1.setCell ⟨x, 0, none⟩ (sl w.heap.size 0 n n)) :=
    ((((Mod.refl [] w).alloc _).trans (U := [x, p]) hm1 (by simp) (by simp))).setCell _ _ (by simp)
  have hfin := NatIs.reslice hx1 hp2 (by omega) (R' := []) (L' := padTo L n) (c := n) (by rw [padTo_length (by omega)]; simp) hn (n := n) (padTo_length (by omega)).symm
  clear hm1 hrow
  go_enter Try.func71, Try.ntmps71
  go_wp2_with fail
  go_ret
  exact ⟨_, _, rfl, hm2, hfin, .inr (by omega)⟩

theorem c_expand (x p n : Nat) (L R : List Nat) (w : World) (h : NatIs w x p L R) (h1 : L.length ≤ n) (hn : n ≤ 100000) :
    Calls Try.prog 71 #[ptr x, i64 n] w fun e w' =>
      ∃ p' R', e = .returned (ptr x) ∧ Mod [x, p] w w' ∧ NatIs w' x p' (padTo L n) R' ∧ Kept w p p' := by
  rcases Nat.lt_or_ge (L.length + R.length) n with hlt | hge
  · exact c_expand_grow x p n L R w h hlt hn
  · rcases Nat.eq_zero_or_pos R.length with h0 | hpos
    · obtain rfl := List.eq_nil_of_length_eq_zero h0
      obtain rfl : n = L.length := by simp at hge; omega
      exact c_expand_full x p L w h
    · exact c_expand_room x p n L R w h h1 hge hpos

set_option maxRecDepth 100000 in
theorem c_ExpandFor (x p m y q k : Nat) (odd : Bool) (r : Value) (L R M Q : List Nat) (w : World) (h : NatIs w x p L R) (hm : MHead w m y odd k r) (hy : NatIs w y q M Q) (h1 : L.length ≤ M.length) :
    Calls Try.prog 63 #[ptr x, ptr m] w fun e w' =>
      ∃ p' R', e = .returned (ptr x) ∧ Mod [x, p] w w' ∧ NatIs w' x p' (padTo L M.length) R' ∧ Kept w p p' := by
  have hc := hm.c0
  have hc2 := hy.cell
  have hcap := hy.cap
  go_enter Try.func63, Try.ntmps63
  go_wp2_with fail
  refine (c_expand x p M.length L R _ h h1 (by omega)).mono ?_
  rintro e w1 ⟨p', R', rfl, hm1, hx1, hk1⟩
  go_wp2_with fail
  go_ret
  exact ⟨p', R', rfl, hm1, hx1, hk1⟩

end Go.Proofs.Ytgejcabgcemllaa
