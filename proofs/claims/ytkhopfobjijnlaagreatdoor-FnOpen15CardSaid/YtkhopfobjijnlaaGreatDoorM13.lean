/- spec.Add and spec.Sub (printed by add.py). spec.Sub (printed by sub.py). spec.Mul. -/
import Derived.Test.YtkhopfobjijnlaaGreatDoorM12
set_option linter.all false
namespace Go.Proofs.YtkhopfobjijnlaaGreatDoor
open Go.RowKit

theorem valS_take_any (L : List Nat) (i : Nat) : valS (L.take (i + 1)) = valS (L.take i) + 65536 ^ i * nth L i := by
  rcases Nat.lt_or_ge i L.length with h | h
  · exact valS_take_succ h
  · rw [List.take_of_length_le (by omega), List.take_of_length_le h, nth_ge h, Nat.mul_zero, Nat.add_zero]
theorem valS_push (L : List Nat) (u : Nat) : valS (L ++ [u]) = valS L + 65536 ^ L.length * u := by rw [valS_append]; simp [valS]

/-- What spec.Add has done. -/
structure AddAt (A B D : List Nat) (i c : Nat) : Prop where
  len : D.length = i
  digits : Digits D
  carry : c ≤ 1
  val : valS D + 65536 ^ i * c = valS (A.take i) + valS (B.take i)
theorem AddAt.next {A B D : List Nat} {i c : Nat} (h : AddAt A B D i c) (hA : Digits A) (hB : Digits B) :
    AddAt A B (D ++ [(c + nth A i + nth B i) % 65536]) (i + 1) ((c + nth A i + nth B i) / 65536) := by
  have a := hA i
  have b := hB i
  have hc := h.carry
  refine ⟨by simp [h.len], h.digits.push (Nat.mod_lt _ (by omega)), by omega, ?_⟩
  have h1 := h.val
  have h2 : c + nth A i + nth B i = (c + nth A i + nth B i) % 65536 + 65536 * ((c + nth A i + nth B i) / 65536) := by omega
  rw [valS_push, h.len, valS_take_any, valS_take_any, Nat.pow_succ]
  generalize (c + nth A i + nth B i) % 65536 = u at h2 ⊢
  generalize (c + nth A i + nth B i) / 65536 = d at h2 ⊢
  generalize 65536 ^ i = p at h1 ⊢
  grind

set_option maxRecDepth 100000 in
set_option maxHeartbeats 2000000 in
theorem c_sAdd (va vb : Value) (A B : List Nat) (w : World) (ha : SliceK i64 w va A) (hb : SliceK i64 w vb B) (dA : Digits A) (dB : Digits B) (lA : A.length ≤ 100000) (lB : B.length ≤ 100000) :
    Calls Tryz.prog 27 #[va, vb] w fun e w' => ∃ v L, e = .returned v ∧ Mod [] w w' ∧ SliceK i64 w' v L ∧ Canon L ∧ valS L = valS A + valS B ∧ L.length ≤ max A.length B.length + 1 := by
  obtain ⟨aa, ca, rfl⟩ := ha.lit
  obtain ⟨ab, cb, rfl⟩ := hb.lit
  have hown0 : Own i64 3 (w.alloc (.cells #[] 3)) w.heap.size (sl w.heap.size 0 0 0) [] := Own.ofBlk (rest := []) (Nat.le_refl _) (Blk.new w _ []) rfl (by simp [maxLen])
  go_enter Tryz.func27, Tryz.ntmps27
  go_wp2_with fail
  go_loopw [5, 6, 7] (fun v c i wr => ∃ (c' i' : Nat) (D : List Nat) (vv : Value), vv = v ∧ c = i64 c' ∧ i = i64 i' ∧ i' ≤ max A.length B.length ∧ Mod [] w wr ∧ Own i64 3 wr w.heap.size vv D ∧ Hid (AddAt A B D i' c')) (fun _ _ i _ => max A.length B.length - (intOf i).toNat)
  case atStart => exact ⟨0, 0, [], _, rfl, rfl, rfl, by omega, (Mod.refl _ _).alloc _, hown0, hide ⟨rfl, fun i => by rw [nth_ge (by simp)]; omega, by omega, by simp [valS]⟩⟩
  case round =>
    obtain ⟨c, i, D, vv, rfl, rfl, rfl, hi, hm, hv, hS⟩ := hrel
    have hcc := hS.out.carry
    have hxa := dA i
    have hxb := dB i
    have hlen : D.length < 900000 := by have := hS.out.len; omega
    obtain ⟨x, hx⟩ : ∃ x, x = nth A i := ⟨_, rfl⟩
    obtain ⟨y, hy⟩ : ∃ y, y = nth B i := ⟨_, rfl⟩
    have hS2 := hS.out.next dA dB
    rw [← hx, ← hy] at hS2
    obtain ⟨s1, hs1⟩ : ∃ s1, s1 = c + x := ⟨_, rfl⟩
    obtain ⟨s, hs⟩ : ∃ s, s = s1 + y := ⟨_, rfl⟩
    rw [← hs1, ← hs] at hS2
    obtain ⟨u, hu⟩ : ∃ u, u = s % 65536 := ⟨_, rfl⟩
    obtain ⟨d, hd⟩ : ∃ d, d = s / 65536 := ⟨_, rfl⟩
    rw [← hu, ← hd] at hS2
    have HS2 := hide hS2
    have e1 : (c : Int) + (x : Int) = (s1 : Int) := by omega
    have e2 : (s1 : Int) + (y : Int) = (s : Int) := by omega
    have e3 : (s : Int) % 65536 = (u : Int) := by omega
    have e4 : (s : Int) / 65536 = (d : Int) := by omega
    have b1 : s ≤ 200000 := by omega
    have b2 : s1 ≤ 200000 := by omega
    have b3 : d ≤ 2 := by omega
    have b4 : c ≤ 1 := hcc
    have hma : Mod [] w (wr.alloc (.cells #[.int .i64 (u : Int)] 3)) := hm.alloc _
    have hva : Own i64 3 (wr.alloc (.cells #[.int .i64 (u : Int)] 3)) w.heap.size vv D := hv.mod ((Mod.refl [] _).alloc _) (by simp)
    have hca : (wr.alloc (.cells #[.int .i64 (u : Int)] 3)).cell? ⟨wr.heap.size, 0, none⟩ = some (i64 u) := blk_cell0 (Blk.new wr 3 [i64 u])
    clear hS2 hu hd
    by_cases h1 : i < A.length
    · obtain ⟨b1', o1, rfl, _, hcA⟩ := (ha.mod hm (by simp)).at (by omega)
      have hr1 := hcA i h1
      rw [← hx] at hr1
      by_cases h2 : i < B.length
      · obtain ⟨b2', o2, rfl, _, hcB⟩ := (hb.mod hm (by simp)).at (by omega)
        have hr2 := hcB i h2
        rw [← hy] at hr2
        clear hs hs1 hx hy hxa hxb hcc hcA hcB
        go_wp2_with (at_builtin; refine wpl_push rfl _ _ _ rfl vv wr.heap.size 1 rfl rfl i64 rfl Tryz.underlying25 info_int (by omega) (fun _ => rfl) hma hva hca hlen ?_)
        intro v' w' hv' hm'
        go_wp2_with fail
        go_roundw
        case rel => exact ⟨d, i + 1, _, v', rfl, by go_num, by go_num, by omega, hm', hv', HS2⟩
        case measure => simp [intOf]; omega
      · have hy0 : y = 0 := by rw [hy, nth_ge (by omega)]
        obtain rfl : s = s1 := by omega
        clear hs hs1 hx hy hxa hxb hcc hcA hy0 e2
        go_wp2_with (at_builtin; refine wpl_push rfl _ _ _ rfl vv wr.heap.size 1 rfl rfl i64 rfl Tryz.underlying25 info_int (by omega) (fun _ => rfl) hma hva hca hlen ?_)
        intro v' w' hv' hm'
        go_wp2_with fail
        go_roundw
        case rel => exact ⟨d, i + 1, _, v', rfl, by go_num, by go_num, by omega, hm', hv', HS2⟩
        case measure => simp [intOf]; omega
    · by_cases h2 : i < B.length
      · obtain ⟨b2', o2, rfl, _, hcB⟩ := (hb.mod hm (by simp)).at (by omega)
        have hr2 := hcB i h2
        rw [← hy] at hr2
        have hx0 : x = 0 := by rw [hx, nth_ge (by omega)]
        obtain rfl : s1 = c := by omega
        clear hs hs1 hx hy hxa hxb hcc hcB hx0 e1
        go_wp2_with (at_builtin; refine wpl_push rfl _ _ _ rfl vv wr.heap.size 1 rfl rfl i64 rfl Tryz.underlying25 info_int (by omega) (fun _ => rfl) hma hva hca hlen ?_)
        intro v' w' hv' hm'
        go_wp2_with fail
        go_roundw
        case rel => exact ⟨d, i + 1, _, v', rfl, by go_num, by go_num, by omega, hm', hv', HS2⟩
        case measure => simp [intOf]; omega
      · obtain rfl : i = max A.length B.length := by omega
        have hfin : Hid (Digits (D ++ [c]) ∧ valS (D ++ [c]) = valS A + valS B ∧ (D ++ [c]).length = max A.length B.length + 1) := by
          refine hide ⟨hS.out.digits.push (by omega), ?_, by simp [hS.out.len]⟩
          rw [valS_push, hS.out.len, hS.out.val, List.take_of_length_le (by omega), List.take_of_length_le (by omega)]
        have hma : Mod [] w (wr.alloc (.cells #[.int .i64 (c : Int)] 3)) := hm.alloc _
        have hva : Own i64 3 (wr.alloc (.cells #[.int .i64 (c : Int)] 3)) w.heap.size vv D := hv.mod ((Mod.refl [] _).alloc _) (by simp)
        have hca : (wr.alloc (.cells #[.int .i64 (c : Int)] 3)).cell? ⟨wr.heap.size, 0, none⟩ = some (i64 c) := blk_cell0 (Blk.new wr 3 [i64 c])
        clear hs hs1 hx hy hxa hxb hcc e1 e2 e3 e4
        have HI := hide hi
        clear hi
        obtain ⟨mx, hmx⟩ : ∃ mx, mx = max A.length B.length := ⟨_, rfl⟩
        rw [← hmx] at hfin HI h1 h2 ⊢
        have HMX := hide hmx
        clear hmx
        go_wp2_with (at_builtin; refine wpl_push rfl _ _ _ rfl vv wr.heap.size 1 rfl rfl i64 rfl Tryz.underlying25 info_int (by omega) (fun _ => rfl) hma hva hca hlen ?_)
        intro v' w' hv' hm'
        go_wp2_with fail
        refine (c_trimS v' _ _ hv'.slice hfin.out.1 (by have := hfin.out.2.2; simp at this ⊢; omega)).mono ?_
        rintro e w2 ⟨v2, L2, rfl, m2, hs2, hc2, hv2, hl2⟩
        have m12 : Mod [] w w2 := Mod.trans (U := []) hm' m2 (by simp) (by simp)
        have HV := hide (hv2.trans hfin.out.2.1)
        have HL := hide (Nat.le_trans hl2 (Nat.le_of_eq hfin.out.2.2))
        clear hv2 hl2
        go_wp2_with fail
        go_ret
        exact ⟨v2, L2, rfl, m12, hs2, hc2, HV.out, by rw [← HMX.out]; exact HL.out⟩
end Go.Proofs.YtkhopfobjijnlaaGreatDoor
namespace Go.Proofs.YtkhopfobjijnlaaGreatDoor
open Go.RowKit

/-- What spec.Sub has done. -/
structure SubAt (A B D : List Nat) (i c : Nat) : Prop where
  len : D.length = i
  digits : Digits D
  borrow : c ≤ 1
  val : valS D + valS (B.take i) = valS (A.take i) + 65536 ^ i * c
theorem SubAt.next {A B D : List Nat} {i c u d : Nat} (h : SubAt A B D i c) (hu : u < 65536) (hd : d ≤ 1) (he : u + nth B i + c = nth A i + 65536 * d) : SubAt A B (D ++ [u]) (i + 1) d := by
  refine ⟨by simp [h.len], h.digits.push hu, hd, ?_⟩
  have h1 := h.val
  rw [valS_push, h.len, valS_take_any, valS_take_any, Nat.pow_succ]
  generalize 65536 ^ i = p at h1 ⊢
  generalize nth B i = y at he ⊢
  generalize nth A i = x at he ⊢
  grind
theorem SubAt.done {A B D : List Nat} {c : Nat} (h : SubAt A B D A.length c) (hl : B.length ≤ A.length) (hle : valS B ≤ valS A) : valS D = valS A - valS B := by
  have h1 := h.val
  rw [List.take_of_length_le hl, List.take_of_length_le (Nat.le_refl _)] at h1
  have h2 := valS_lt h.digits
  rw [h.len] at h2
  have h3 := h.borrow
  rcases Nat.eq_zero_or_pos c with h0 | h0
  · subst h0; omega
  · obtain rfl : c = 1 := by omega
    omega
theorem Canon.length_le {A B : List Nat} (hA : Digits A) (hB : Canon B) (h : valS B ≤ valS A) : B.length ≤ A.length := by
  rcases Nat.lt_or_ge A.length B.length with hlt | hge
  · have := valS_shorter hA hB hlt; omega
  · exact hge

set_option maxRecDepth 100000 in
set_option maxHeartbeats 2000000 in
theorem c_sSub (va vb : Value) (A B : List Nat) (w : World) (ha : SliceK i64 w va A) (hb : SliceK i64 w vb B) (dA : Digits A) (cB : Canon B) (hle : valS B ≤ valS A) (lA : A.length ≤ 100000) :
    Calls Tryz.prog 23 #[va, vb] w fun e w' => ∃ v L, e = .returned v ∧ Mod [] w w' ∧ SliceK i64 w' v L ∧ Canon L ∧ valS L = valS A - valS B ∧ L.length ≤ A.length := by
  have dB := cB.digits
  have lB := Canon.length_le dA cB hle
  obtain ⟨aa, ca, rfl⟩ := ha.lit
  obtain ⟨ab, cb, rfl⟩ := hb.lit
  have HLE := hide hle
  have HLB := hide lB
  have hown0 : Own i64 3 (w.alloc (.cells #[] 3)) w.heap.size (sl w.heap.size 0 0 0) [] := Own.ofBlk (rest := []) (Nat.le_refl _) (Blk.new w _ []) rfl (by simp [maxLen])
  clear hle
  go_enter Tryz.func23, Tryz.ntmps23
  go_wp2_with fail
  go_loopw [5, 6, 12] (fun v c i wr => ∃ (c' i' : Nat) (D : List Nat) (vv : Value), vv = v ∧ c = i64 c' ∧ i = i64 i' ∧ i' ≤ A.length ∧ Mod [] w wr ∧ Own i64 3 wr w.heap.size vv D ∧ Hid (SubAt A B D i' c')) (fun _ _ i _ => A.length - (intOf i).toNat)
  case atStart => exact ⟨0, 0, [], _, rfl, rfl, rfl, by omega, (Mod.refl _ _).alloc _, hown0, hide ⟨rfl, fun i => by rw [nth_ge (by simp)]; omega, by omega, by simp [valS]⟩⟩
  case round =>
    obtain ⟨c, i, D, vv, rfl, rfl, rfl, hi, hm, hv, hS⟩ := hrel
    have hcc := hS.out.borrow
    have hxa := dA i
    have hxb := dB i
    have hlen : D.length < 900000 := by have := hS.out.len; omega
    by_cases h1 : i < A.length
    · obtain ⟨b1', o1, rfl, _, hcA⟩ := (ha.mod hm (by simp)).at (by omega)
      have hr1 := hcA i h1
      obtain ⟨x, hx⟩ : ∃ x, x = nth A i := ⟨_, rfl⟩
      obtain ⟨y, hy⟩ : ∃ y, y = nth B i := ⟨_, rfl⟩
      obtain ⟨z1, hz1⟩ : ∃ z1 : Int, z1 = (x : Int) - (c : Int) := ⟨_, rfl⟩
      obtain ⟨z, hz⟩ : ∃ z : Int, z = z1 - (y : Int) := ⟨_, rfl⟩
      rw [← hx] at hr1 hxa
      rw [← hy] at hxb
      have e1 : (x : Int) - (c : Int) = z1 := hz1.symm
      have e2 : z1 - (y : Int) = z := hz.symm
      have hnext : ∀ u d, u < 65536 → d ≤ 1 → u + y + c = x + 65536 * d → Hid (SubAt A B (D ++ [u]) (i + 1) d) := fun u d hu hd he => hide (hS.out.next hu hd (by rw [← hx, ← hy]; exact he))
      have hlo : -65536 ≤ z := by omega
      have hhi : z ≤ 65535 := by omega
      have hlo1 : -1 ≤ z1 := by omega
      have hhi1 : z1 ≤ 65535 := by omega
      have hpush : ∀ u : Nat, Mod [] w (wr.alloc (.cells #[.int .i64 (u : Int)] 3)) ∧ Own i64 3 (wr.alloc (.cells #[.int .i64 (u : Int)] 3)) w.heap.size vv D ∧ (wr.alloc (.cells #[.int .i64 (u : Int)] 3)).cell? ⟨wr.heap.size, 0, none⟩ = some (i64 u) :=
        fun u => ⟨hm.alloc _, hv.mod ((Mod.refl [] _).alloc _) (by simp), blk_cell0 (Blk.new wr 3 [i64 u])⟩
      by_cases h2 : i < B.length
      · obtain ⟨b2', o2, rfl, _, hcB⟩ := (hb.mod hm (by simp)).at (by omega)
        have hr2 := hcB i h2
        rw [← hy] at hr2
        clear hcA hcB
        by_cases hneg : z < 0
        · obtain ⟨u, hu⟩ : ∃ u : Nat, (u : Int) = z + 65536 := ⟨(z + 65536).toNat, by omega⟩
          have e3 : z + 65536 = (u : Int) := hu.symm
          have hS2 := hnext u 1 (by omega) (by omega) (by omega)
          obtain ⟨hma, hva, hca⟩ := hpush u
          clear hnext hpush hu hz hz1 hx hy hS
          go_wp2_with (at_builtin; refine wpl_push rfl _ _ _ rfl vv wr.heap.size 1 rfl rfl i64 rfl Tryz.underlying25 info_int (by omega) (fun _ => rfl) hma hva hca hlen ?_)
          intro v' w' hv' hm'
          go_wp2_with fail
          go_roundw
          case rel => exact ⟨1, i + 1, _, v', rfl, rfl, by go_num, by omega, hm', hv', hS2⟩
          case measure => simp [intOf]; omega
        · obtain ⟨u, hu⟩ : ∃ u : Nat, (u : Int) = z := ⟨z.toNat, by omega⟩
          have hS2 := hnext u 0 (by omega) (by omega) (by omega)
          obtain ⟨hma, hva, hca⟩ := hpush u
          rw [hu] at hma hva hca
          clear hnext hpush hz hz1 hx hy hS hu
          go_wp2_with (at_builtin; refine wpl_push rfl _ _ _ rfl vv wr.heap.size 1 rfl rfl i64 rfl Tryz.underlying25 info_int (by omega) (fun _ => rfl) hma hva hca hlen ?_)
          intro v' w' hv' hm'
          go_wp2_with fail
          go_roundw
          case rel => exact ⟨0, i + 1, _, v', rfl, rfl, by go_num, by omega, hm', hv', hS2⟩
          case measure => simp [intOf]; omega
      · have hy0 : y = 0 := by rw [hy, nth_ge (by omega)]
        obtain rfl : z = z1 := by omega
        clear e2 hcA
        by_cases hneg : z < 0
        · obtain ⟨u, hu⟩ : ∃ u : Nat, (u : Int) = z + 65536 := ⟨(z + 65536).toNat, by omega⟩
          have e3 : z + 65536 = (u : Int) := hu.symm
          have hS2 := hnext u 1 (by omega) (by omega) (by omega)
          obtain ⟨hma, hva, hca⟩ := hpush u
          clear hnext hpush hu hz hz1 hx hy hS
          go_wp2_with (at_builtin; refine wpl_push rfl _ _ _ rfl vv wr.heap.size 1 rfl rfl i64 rfl Tryz.underlying25 info_int (by omega) (fun _ => rfl) hma hva hca hlen ?_)
          intro v' w' hv' hm'
          go_wp2_with fail
          go_roundw
          case rel => exact ⟨1, i + 1, _, v', rfl, rfl, by go_num, by omega, hm', hv', hS2⟩
          case measure => simp [intOf]; omega
        · obtain ⟨u, hu⟩ : ∃ u : Nat, (u : Int) = z := ⟨z.toNat, by omega⟩
          have hS2 := hnext u 0 (by omega) (by omega) (by omega)
          obtain ⟨hma, hva, hca⟩ := hpush u
          rw [hu] at hma hva hca
          clear hnext hpush hz hz1 hx hy hS hu
          go_wp2_with (at_builtin; refine wpl_push rfl _ _ _ rfl vv wr.heap.size 1 rfl rfl i64 rfl Tryz.underlying25 info_int (by omega) (fun _ => rfl) hma hva hca hlen ?_)
          intro v' w' hv' hm'
          go_wp2_with fail
          go_roundw
          case rel => exact ⟨0, i + 1, _, v', rfl, rfl, by go_num, by omega, hm', hv', hS2⟩
          case measure => simp [intOf]; omega
    · obtain rfl : i = A.length := by omega
      have hfin := hide (hS.out.done HLB.out HLE.out)
      have hdD := hS.out.digits
      have hlD := hide hS.out.len
      clear hS hcc hxa hxb
      go_wp2_with fail
      refine (c_trimS vv D _ hv.slice hdD (by have := hlD.out; omega)).mono ?_
      rintro e w2 ⟨v2, L2, rfl, m2, hs2, hc2, hv2, hl2⟩
      have m12 : Mod [] w w2 := Mod.trans (U := []) hm m2 (by simp) (by simp)
      have HV := hide (hv2.trans hfin.out)
      have HL := hide (Nat.le_trans hl2 (Nat.le_of_eq hlD.out))
      clear hv2 hl2
      go_wp2_with fail
      go_ret
      exact ⟨v2, L2, rfl, m12, hs2, hc2, HV.out, HL.out⟩
end Go.Proofs.YtkhopfobjijnlaaGreatDoor
namespace Go.Proofs.YtkhopfobjijnlaaGreatDoor
open Go.RowKit

/-- What spec.Mul has done: i digits of A whole, k steps of the next, c is carried. -/
structure MulAt (A B O : List Nat) (i k c : Nat) : Prop where
  len : O.length = A.length + B.length
  digits : Digits O
  carry : c < 65536
  zero : ∀ j, i + B.length ≤ j → nth O j = 0
  val : valS O + 65536 ^ (i + k) * c = valS (A.take i) * valS B + 65536 ^ i * (nth A i * valS (B.take k))
theorem MulAt.start (A B : List Nat) : MulAt A B (List.replicate (A.length + B.length) 0) 0 0 0 :=
  ⟨by simp, Digits.zeros _, by omega, fun j _ => nth_replicate0 _ _, by simp [valS_replicate0, valS]⟩
theorem mul_lt {x y : Nat} (hx : x < 65536) (hy : y < 65536) : x * y ≤ 4294836225 := by
  have h : x * y ≤ 65535 * 65535 := Nat.mul_le_mul (by omega) (by omega)
  omega
theorem MulAt.step {A B O : List Nat} {i k c : Nat} (h : MulAt A B O i k c) (hA : Digits A) (hB : Digits B) (hi : i < A.length) (hk : k < B.length) :
    MulAt A B (O.set (i + k) ((c + (nth O (i + k) + nth A i * nth B k)) % 65536)) i (k + 1) ((c + (nth O (i + k) + nth A i * nth B k)) / 65536) := by
  have hl := h.len
  have hm := mul_lt (hA i) (hB k)
  have ho := h.digits (i + k)
  have hc := h.carry
  refine ⟨by simp [hl], h.digits.set _ (Nat.mod_lt _ (by omega)), by omega, fun j hj => by rw [nth_set_ne (by omega)]; exact h.zero j hj, ?_⟩
  have h1 := h.val
  have h2 := valS_set (V := O) (k := i + k) (v := (c + (nth O (i + k) + nth A i * nth B k)) % 65536) (by omega)
  have h3 : c + (nth O (i + k) + nth A i * nth B k) = (c + (nth O (i + k) + nth A i * nth B k)) % 65536 + 65536 * ((c + (nth O (i + k) + nth A i * nth B k)) / 65536) := by omega
  have hp : (65536 : Nat) ^ (i + (k + 1)) = 65536 ^ i * 65536 ^ k * 65536 := by rw [Nat.pow_add, Nat.pow_succ, Nat.mul_assoc]
  rw [valS_take_any, hp]
  rw [Nat.pow_add] at h1 h2
  generalize (c + (nth O (i + k) + nth A i * nth B k)) % 65536 = u at h2 h3 ⊢
  generalize (c + (nth O (i + k) + nth A i * nth B k)) / 65536 = d at h3 ⊢
  generalize valS (O.set (i + k) u) = V' at h2 ⊢
  generalize nth O (i + k) = o at h2 h3
  generalize nth A i = x at h1 h3 ⊢
  generalize nth B k = y at h3 ⊢
  generalize valS O = V at h1 h2
  generalize valS (A.take i) = a at h1 ⊢
  generalize valS (B.take k) = b at h1 ⊢
  generalize valS B = b2 at h1 ⊢
  generalize 65536 ^ i = p at h1 h2 ⊢
  generalize 65536 ^ k = q at h1 h2 ⊢
  clear hm ho hc hl
  have h4 : p * q * (u + 65536 * d) = p * q * (c + (o + x * y)) := by rw [h3]
  grind
theorem MulAt.digit {A B O : List Nat} {i c : Nat} (h : MulAt A B O i B.length c) (hi : i < A.length) : MulAt A B (O.set (i + B.length) c) (i + 1) 0 0 := by
  have hl := h.len
  have hz := h.zero (i + B.length) (Nat.le_refl _)
  refine ⟨by simp [hl], h.digits.set _ h.carry, by omega, fun j hj => by rw [nth_set_ne (by omega)]; exact h.zero j (by omega), ?_⟩
  have h1 := h.val
  have h2 := valS_set (V := O) (k := i + B.length) (v := c) (by omega)
  rw [hz, Nat.mul_zero, Nat.add_zero] at h2
  rw [h2, h1, List.take_length, valS_take_any]
  simp only [List.take_zero, valS, Nat.mul_zero, Nat.add_zero]
  rw [Nat.add_mul, Nat.mul_assoc]
theorem MulAt.done {A B O : List Nat} (h : MulAt A B O A.length 0 0) : valS O = valS A * valS B := by
  have h1 := h.val
  simp only [List.take_zero, valS, Nat.mul_zero, Nat.add_zero] at h1
  rw [h1, List.take_length]

set_option maxRecDepth 100000 in
set_option maxHeartbeats 2000000 in
theorem c_sMul (va vb : Value) (A B : List Nat) (w : World) (ha : SliceK i64 w va A) (hb : SliceK i64 w vb B) (dA : Digits A) (dB : Digits B) (lA : A.length ≤ 100000) (lB : B.length ≤ 100000) :
    Calls Tryz.prog 29 #[va, vb] w fun e w' => ∃ v L, e = .returned v ∧ Mod [] w w' ∧ SliceK i64 w' v L ∧ Canon L ∧ valS L = valS A * valS B ∧ L.length ≤ A.length + B.length := by
  obtain ⟨aa, ca, rfl⟩ := ha.lit
  obtain ⟨ab, cb, rfl⟩ := hb.lit
  obtain ⟨n, hn⟩ : ∃ n, n = A.length + B.length := ⟨_, rfl⟩
  have e0 : (A.length : Int) + (B.length : Int) = (n : Int) := by omega
  obtain ⟨g, wa, hmk, ma, hg, hba⟩ := made_int n (by omega) w
  rw [hn] at hba
  have hs0 := hide (MulAt.start A B)
  have hn2 : n ≤ 200000 := by omega
  have HN := hide hn
  clear hn
  go_enter Tryz.func29, Tryz.ntmps29
  go_wp2_with fail
  go_loopw [19] (fun i wr => ∃ (i' : Nat) (O : List Nat), i = i64 i' ∧ i' ≤ A.length ∧ Mod [] w wr ∧ Blk wr g 3 (O.map i64) ∧ Hid (MulAt A B O i' 0 0)) (fun i _ => A.length - (intOf i).toNat)
  case atStart => exact ⟨0, _, rfl, by omega, ma, hba, hs0⟩
  case round =>
    obtain ⟨i, O, rfl, hi, hm, hO, hS⟩ := hrel
    by_cases h1 : i < A.length
    · obtain ⟨b1', o1, rfl, _, hcA⟩ := (ha.mod hm (by simp)).at (by omega)
      have hr1 := hcA i h1
      obtain ⟨x, hx⟩ : ∃ x, x = nth A i := ⟨_, rfl⟩
      rw [← hx] at hr1
      have HX := hide hx
      have hxb : x < 65536 := by rw [hx]; exact dA i
      clear hcA hx
      go_wp2_with fail
      go_loopw [8, 26] (fun c k wr => ∃ (c' k' : Nat) (O : List Nat), c = i64 c' ∧ k = i64 k' ∧ k' ≤ B.length ∧ Mod [] w wr ∧ Blk wr g 3 (O.map i64) ∧ Hid (MulAt A B O i k' c')) (fun _ k _ => B.length - (intOf k).toNat)
      case atStart => exact ⟨0, 0, O, rfl, rfl, by omega, hm, hO, hS⟩
      case round =>
        clear hm hO hS hr1 O
        obtain ⟨c, k, O, rfl, rfl, hk, hm, hO, hS⟩ := hrel
        have hcc := hS.out.carry
        have hOl := hS.out.len
        rw [← HN.out] at hOl
        have HB2 := hide HN.out
        by_cases h2 : k < B.length
        · obtain ⟨b2', o2, rfl, _, hcB⟩ := (hb.mod hm (by simp)).at (by omega)
          have hr2 := hcB k h2
          have hn3 := HN.out
          have hro := hO.at (i + k) (by omega)
          have hfo := hO.frozen (i + k)
          obtain ⟨y, hy⟩ : ∃ y, y = nth B k := ⟨_, rfl⟩
          obtain ⟨ik, hik⟩ : ∃ ik, ik = i + k := ⟨_, rfl⟩
          obtain ⟨z, hz⟩ : ∃ z, z = nth O (i + k) := ⟨_, rfl⟩
          have hyb : y < 65536 := by rw [hy]; exact dB k
          have hzb : z < 65536 := by rw [hz]; exact hS.out.digits _
          have hmx := mul_lt hxb hyb
          have hS2 := hS.out.step dA dB h1 h2
          rw [← hz, ← hy, ← HX.out, ← hik] at hS2
          rw [← hy] at hr2
          rw [← hz, ← hik] at hro
          rw [← hik] at hfo
          obtain ⟨m, hmm⟩ : ∃ m, m = x * y := ⟨_, rfl⟩
          obtain ⟨s1, hs1⟩ : ∃ s1, s1 = z + m := ⟨_, rfl⟩
          obtain ⟨s, hs⟩ : ∃ s, s = c + s1 := ⟨_, rfl⟩
          rw [← hmm, ← hs1, ← hs] at hS2
          rw [← hmm] at hmx
          obtain ⟨u, hu⟩ : ∃ u, u = s % 65536 := ⟨_, rfl⟩
          obtain ⟨d, hd⟩ : ∃ d, d = s / 65536 := ⟨_, rfl⟩
          rw [← hu, ← hd] at hS2
          have HS2 := hide hS2
          have e1 : (i : Int) + (k : Int) = (ik : Int) := by omega
          have e2 : (x : Int) * (y : Int) = (m : Int) := by rw [hmm, Int.natCast_mul]
          have e3 : (z : Int) + (m : Int) = (s1 : Int) := by omega
          have e4 : (c : Int) + (s1 : Int) = (s : Int) := by omega
          have e5 : (s : Int) % 65536 = (u : Int) := by omega
          have e6 : (s : Int) / 65536 = (d : Int) := by omega
          have b1 : s1 ≤ 4294967295 := by omega
          have b2 : s ≤ 4295032830 := by omega
          have b3 : d ≤ 65536 := by omega
          have b4 : (ik : Int) < (n : Int) := by omega
          have hO2 : Blk (wr.setCell ⟨g, ik, none⟩ (.int .i64 (u : Int))) g 3 ((O.set ik u).map i64) := hO.set ik u
          have hm2 : Mod [] w (wr.setCell ⟨g, ik, none⟩ (.int .i64 (u : Int))) := hm.setCell _ _ (by simp; omega)
          have hkb : k ≤ 100000 := by omega
          have hib : i ≤ 100000 := by omega
          clear hS2 hu hd hs hs1 hmm hz hy hik hcB hS hn3 HB2
          go_wp2_with fail
          go_roundw
          case rel => exact ⟨d, k + 1, _, rfl, by go_num, by omega, hm2, hO2, HS2⟩
          case measure => simp [intOf]; omega
        · obtain rfl : k = B.length := by omega
          have hn3 := HN.out
          obtain ⟨il, hil⟩ : ∃ il, il = i + B.length := ⟨_, rfl⟩
          have e1 : (i : Int) + (B.length : Int) = (il : Int) := by omega
          have hro := hO.at il (by omega)
          have hfo := hO.frozen il
          have hS2 := hS.out.digit h1
          rw [← hil] at hS2
          have HS2 := hide hS2
          have b4 : (il : Int) < (n : Int) := by omega
          have hO2 : Blk (wr.setCell ⟨g, il, none⟩ (.int .i64 (c : Int))) g 3 ((O.set il c).map i64) := hO.set il c
          have hm2 : Mod [] w (wr.setCell ⟨g, il, none⟩ (.int .i64 (c : Int))) := hm.setCell _ _ (by simp; omega)
          have hib : i ≤ 100000 := by omega
          clear hS2 hil hS hn3 HB2
          go_wp2_with fail
          go_roundw
          case rel => exact ⟨i + 1, _, by go_num, by omega, hm2, hO2, HS2⟩
          case measure => simp [intOf]; omega
    · obtain rfl : i = A.length := by omega
      have hdone := hide hS.out.done
      have hOd := hS.out.digits
      have hOl := hide (hS.out.len.trans HN.out.symm)
      have hsl : SliceK i64 wr (sl g 0 n n) O := by
        refine .inr ⟨g, 0, n, by rw [hOl.out], by rw [hOl.out]; omega, fun j hj => ?_⟩
        rw [Nat.zero_add]
        exact hO.at j hj
      clear hS
      go_wp2_with fail
      refine (c_trimS _ O _ hsl hOd (by have := hOl.out; omega)).mono ?_
      rintro e w2 ⟨v2, L2, rfl, m2, hs2, hc2, hv2, hl2⟩
      have m12 : Mod [] w w2 := Mod.trans (U := []) hm m2 (by simp) (by simp)
      have HV := hide (hv2.trans hdone.out)
      have HL := hide (Nat.le_trans hl2 (Nat.le_of_eq (hOl.out.trans HN.out)))
      clear hv2 hl2
      go_wp2_with fail
      go_ret
      exact ⟨v2, L2, rfl, m12, hs2, hc2, HV.out, HL.out⟩
end Go.Proofs.YtkhopfobjijnlaaGreatDoor
