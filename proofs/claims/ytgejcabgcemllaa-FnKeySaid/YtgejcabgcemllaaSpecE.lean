/- spec.OfBytes. -/
import Derived.Test.YtgejcabgcemllaaSpecD
namespace Go.Proofs.Ytgejcabgcemllaa
open Go.RowKit

theorem nth_push0 (V : List Nat) (j : Nat) : nth (V ++ [0]) j = nth V j := by
  rcases Nat.lt_or_ge j V.length with h | h
  · exact nth_append_left h
  · rw [nth_append_right h, nth_ge h]
    rcases Nat.eq_zero_or_pos (j - V.length) with h0 | h0
    · rw [h0]; rfl
    · exact nth_ge (by rw [List.length_singleton]; exact h0)
theorem SB.push {B V : List Nat} {k t i : Nat} (h : SB B V k k t i) : SB B (V ++ [0]) (k + 1) k t i :=
  ⟨by simp [h.len], h.words.append (Words.replicate0 1), fun j hj => by rw [nth_push0]; exact h.zero j hj, h.left, by rw [nth_push0]; exact h.cur, by
    have := h.val
    rw [Go.Proofs.Ytgejcabgcemllaa.val_append]
    simpa [Go.Proofs.Ytgejcabgcemllaa.val] using this⟩
theorem SB.roll {B V : List Nat} {n k i : Nat} (h : SB B V n k 8 i) : SB B V n (k + 1) 0 i :=
  ⟨h.len, h.words, fun j hj => h.zero j (by omega), by have := h.left; omega, by rw [h.zero (k + 1) (by omega)]; rfl, by rw [h.val, show 8 * (k + 1) + 0 = 8 * k + 8 by omega]⟩

theorem Own.drew {k : Nat → Value} {T : Nat} {w : World} {base : Nat} {v : Value} {L : List Nat} (h : Own k T w base v L) : Own k T w.drew base v L := h
theorem Own.put {k : Nat → Value} {T : Nat} {w : World} {base g cap : Nat} {L : List Nat} {rest : List Value} (hb : base ≤ g) (h : Blk w g T (L.map k ++ rest)) (hc : L.length + rest.length = cap) (hm : cap ≤ maxLen) (q u : Nat) (hq : q < L.length) :
    Own k T (w.setCell ⟨g, q, none⟩ (k u)) base (sl g 0 L.length cap) (L.set q u) := by
  have h2 := h.setCell q (k u)
  rw [List.set_append_left _ _ (by simpa using hq), ← List.map_set] at h2
  have := Own.ofBlk (k := k) hb h2 (cap := cap) (by simpa using hc) hm
  simpa using this

set_option maxRecDepth 100000 in
set_option maxHeartbeats 2000000 in
theorem c_OfBytes (v : Value) (B : List Nat) (w : World) (h : SliceB w v B) (hB : Bytes B) (hbig : B.length ≤ 100000) :
    Calls Try.prog 13 #[v] w fun e w' => ∃ v' L', e = .returned v' ∧ Mod [] w w' ∧ SliceK i64 w' v' L' ∧ Canon L' ∧ valS L' = bval B ∧ L'.length ≤ 1000000 := by
  obtain ⟨a, c, rfl⟩ := h.lit
  have hown0 : Own u64 62 (w.alloc (.cells #[] 62)) w.heap.size (sl w.heap.size 0 0 0) [] := Own.ofBlk (rest := []) (Nat.le_refl _) (Blk.new w _ []) rfl (by simp [maxLen])
  go_enter Try.func13, Try.ntmps13
  go_wp2_with fail
  go_loopw [3, 9] (fun v i wr => ∃ (n q r jn : Nat) (V : List Nat) (vv : Value), n ≤ B.length ∧ i = i64 n ∧ vv = v ∧ Mod [] w wr ∧ Own u64 62 wr w.heap.size vv V ∧ Hid (SB B V V.length q r jn ∧ n = 8 * q + r ∧ r < 8 ∧ V.length = (n + 7) / 8)) (fun _ i _ => B.length - (intOf i).toNat)
  case atStart => exact ⟨0, 0, 0, B.length, [], _, by omega, rfl, rfl, (Mod.refl _ _).alloc _, hown0, hide ⟨SB.start B 0, rfl, by omega, rfl⟩⟩
  case round =>
    obtain ⟨n, q, r, jn, V, vv, hn, rfl, rfl, hm, hv, hS⟩ := hrel
    by_cases hlt : n < B.length
    · have hl := hS.out.1.left
      have hnq := hS.out.2.1
      have hr8 := hS.out.2.2.1
      have hVl := hS.out.2.2.2
      obtain ⟨j, rfl⟩ : ∃ j, jn = j + 1 := ⟨jn - 1, by omega⟩
      obtain ⟨l1, hl1⟩ : ∃ l1, l1 = B.length - 1 := ⟨_, rfl⟩
      have e1 : IntKind.i64.wrap ((B.length : Int) - 1) = (l1 : Int) := by rw [IntKind.wrap_i64]; omega
      have e2 : IntKind.i64.wrap ((l1 : Int) - (n : Int)) = (j : Int) := by rw [IntKind.wrap_i64]; omega
      have e3 : (n : Int) % 8 = (r : Int) := by omega
      have e4 : (n : Int) / 8 = (q : Int) := by omega
      obtain ⟨s, hs⟩ : ∃ s, s = 8 * r := ⟨_, rfl⟩
      have e5 : IntKind.i64.wrap (8 * (r : Int)) = (s : Int) := by rw [IntKind.wrap_i64]; omega
      have e6 : IntKind.i64.wrap (q : Int) = (q : Int) := by rw [IntKind.wrap_i64]; omega
      have e7 : (n : Int).tmod 8 = (r : Int) := by rw [Int.tmod_eq_emod_of_nonneg (by omega)]; exact e3
      have hs0 : (0 : Int) ≤ (s : Int) := by omega
      have hboth : ∃ b o, a = some ⟨b, o, none⟩ ∧ w.cell? ⟨b, o + j, none⟩ = some (u8 (nth B j)) := by
        rcases h with ⟨_, h2⟩ | ⟨_, _, _, h2⟩ | ⟨b, o, c', h1, h2, h3⟩
        · rw [h2] at hlt; simp at hlt
        · rw [h2] at hlt; simp at hlt
        · simp only [Value.slice.injEq] at h1
          obtain ⟨rfl, _, rfl⟩ := h1
          exact ⟨b, o, rfl, h3 j (by omega)⟩
      obtain ⟨b, o, rfl, hcell⟩ := hboth
      have hjl : (j : Int) < (B.length : Int) := by omega
      have HL := hide (show n + 1 = 8 * q + (r + 1) ∧ r < 8 ∧ B.length = j + 1 + n ∧ s = 8 * r by omega)
      by_cases h0 : r = 0
      · have g0 : ((r : Int) == 0) = true := by subst h0; rfl
        have hVq : V.length = q := by omega
        have hlen : V.length < 900000 := by omega
        have hSp : Hid (SB B (V ++ [0]) (V ++ [0]).length q r (j + 1) ∧ q < (V ++ [0]).length ∧ (V ++ [0]).length = q + 1) := by
          have h1 := hS.out.1
          rw [hVq] at h1
          refine hide ⟨?_, by simp; omega, by simp; omega⟩
          rw [List.length_append, hVq, List.length_singleton]
          exact h1.push
        have hma : Mod [] w (wr.alloc (.cells #[.int .u64 0] 62)) := hm.alloc _
        have hva : Own u64 62 (wr.alloc (.cells #[.int .u64 0] 62)) w.heap.size vv V := hv.mod ((Mod.refl [] _).alloc _) (by simp)
        have hca : (wr.alloc (.cells #[.int .u64 0] 62)).cell? ⟨wr.heap.size, 0, none⟩ = some (u64 0) := blk_cell0 (Blk.new wr 62 [u64 0])
        clear hl hnq hr8 hVl hs hl1 h0 hS hVq
        go_wp2_with (at_builtin; refine wpl_push rfl _ _ _ rfl vv wr.heap.size 1 rfl rfl u64 rfl Try.underlying61 info_uint (by omega) (fun _ => rfl) hma hva hca hlen ?_)
        intro v1 w1 hv1 hm1
        obtain ⟨V1, hV1⟩ : ∃ V1, V1 = V ++ [0] := ⟨_, rfl⟩
        rw [← hV1] at hv1 hSp
        clear hma hva hca hlen hm hv hV1
        obtain ⟨gS, gq, gl⟩ := hSp.out
        rcases hv1.blk with ⟨_, hnil⟩ | ⟨g, cap, rest, rfl, hb, hg, hcap, hmx⟩
        · rw [hnil] at gq; simp at gq
        have hcq : w1.cell? ⟨g, q, none⟩ = some (u64 (nth V1 q)) := by rw [hg.cell, List.getElem?_append_left (by simpa using gq), map_get gq]
        have hfq := hg.frozen q
        have hcb : w1.cell? ⟨b, o + j, none⟩ = some (u8 (nth B j)) := by
          rw [← hcell]
          exact World.cell?_of_block (w := w) (hm1.block b (block_lt_of_cell hcell) (by simp))
        have ebt : IntKind.u64.wrap (nth B j : Int) = (nth B j : Int) := by have := hB j; exact u64_wrap_id _ (by omega) (by omega)
        have hcur : nth V1 q < 256 ^ r := by rw [gS.cur]; exact bseg_lt hB _ _
        have hor := byte_or r HL.out.2.2.2 HL.out.2.1 hcur (hB j)
        rw [show s = min s 64 from (Nat.min_eq_left (by have := HL.out; omega)).symm] at hor
        have hS2 := gS.byte hB gq HL.out.2.1
        obtain ⟨nw, hnw⟩ : ∃ nw, nw = nth V1 q + nth B j * 2 ^ (8 * r) := ⟨_, rfl⟩
        rw [← hnw] at hor hS2
        have hown := Own.put hb hg hcap hmx q nw gq
        have hmod : Mod [] w (w1.setCell ⟨g, q, none⟩ (.int .u64 (nw : Int))) := hm1.setCell _ _ (by simp; omega)
        have hqi : (q : Int) < (V1.length : Int) := by omega
        have hfin : Hid (∃ q' r', SB B (V1.set q nw) (V1.set q nw).length q' r' j ∧ n + 1 = 8 * q' + r' ∧ r' < 8 ∧ (V1.set q nw).length = (n + 1 + 7) / 8) := by
          have h1 := HL.out
          have hle : (V1.set q nw).length = V1.length := by simp
          rw [← hle] at hS2
          rcases Nat.lt_or_ge (r + 1) 8 with h8 | h8
          · exact hide ⟨q, r + 1, hS2, by omega, h8, by rw [List.length_set]; omega⟩
          · have hr7 : r + 1 = 8 := by omega
            rw [hr7] at hS2
            exact hide ⟨q + 1, 0, hS2.roll, by omega, by omega, by rw [List.length_set]; omega⟩
        obtain ⟨q', r', hfin⟩ := hfin.out
        have HF := hide hfin
        have HO := hide hown
        clear hfin hown hnw hcur hS2 gS gl gq hSp hv1 hcap
        go_wp2_with fail
        go_region_with (fail)
        all_goals
          go_wp2_with fail
          go_roundw
          case rel => exact ⟨n + 1, q', r', j, _, _, by omega, by go_num, rfl, by first | exact hmod | exact hmod.drew | exact hmod.drewN _, HO.out.drew, HF⟩
          case measure => simp [intOf]; omega
      · have g0 : ((r : Int) == 0) = false := by simpa using h0
        obtain ⟨w1, rfl⟩ : ∃ w1, w1 = wr := ⟨_, rfl⟩
        obtain ⟨V1, rfl⟩ : ∃ V1, V1 = V := ⟨_, rfl⟩
        have hSp : Hid (SB B V1 V1.length q r (j + 1) ∧ q < V1.length ∧ V1.length = q + 1) := hide ⟨hS.out.1, by omega, by omega⟩
        have hv1 := hv
        have hm1 := hm
        clear hl hnq hr8 hVl hs hl1 h0 hS hv hm
        obtain ⟨gS, gq, gl⟩ := hSp.out
        rcases hv1.blk with ⟨_, hnil⟩ | ⟨g, cap, rest, rfl, hb, hg, hcap, hmx⟩
        · rw [hnil] at gq; simp at gq
        have hcq : w1.cell? ⟨g, q, none⟩ = some (u64 (nth V1 q)) := by rw [hg.cell, List.getElem?_append_left (by simpa using gq), map_get gq]
        have hfq := hg.frozen q
        have hcb : w1.cell? ⟨b, o + j, none⟩ = some (u8 (nth B j)) := by
          rw [← hcell]
          exact World.cell?_of_block (w := w) (hm1.block b (block_lt_of_cell hcell) (by simp))
        have ebt : IntKind.u64.wrap (nth B j : Int) = (nth B j : Int) := by have := hB j; exact u64_wrap_id _ (by omega) (by omega)
        have hcur : nth V1 q < 256 ^ r := by rw [gS.cur]; exact bseg_lt hB _ _
        have hor := byte_or r HL.out.2.2.2 HL.out.2.1 hcur (hB j)
        rw [show s = min s 64 from (Nat.min_eq_left (by have := HL.out; omega)).symm] at hor
        have hS2 := gS.byte hB gq HL.out.2.1
        obtain ⟨nw, hnw⟩ : ∃ nw, nw = nth V1 q + nth B j * 2 ^ (8 * r) := ⟨_, rfl⟩
        rw [← hnw] at hor hS2
        have hown := Own.put hb hg hcap hmx q nw gq
        have hmod : Mod [] w (w1.setCell ⟨g, q, none⟩ (.int .u64 (nw : Int))) := hm1.setCell _ _ (by simp; omega)
        have hqi : (q : Int) < (V1.length : Int) := by omega
        have hfin : Hid (∃ q' r', SB B (V1.set q nw) (V1.set q nw).length q' r' j ∧ n + 1 = 8 * q' + r' ∧ r' < 8 ∧ (V1.set q nw).length = (n + 1 + 7) / 8) := by
          have h1 := HL.out
          have hle : (V1.set q nw).length = V1.length := by simp
          rw [← hle] at hS2
          rcases Nat.lt_or_ge (r + 1) 8 with h8 | h8
          · exact hide ⟨q, r + 1, hS2, by omega, h8, by rw [List.length_set]; omega⟩
          · have hr7 : r + 1 = 8 := by omega
            rw [hr7] at hS2
            exact hide ⟨q + 1, 0, hS2.roll, by omega, by omega, by rw [List.length_set]; omega⟩
        obtain ⟨q', r', hfin⟩ := hfin.out
        have HF := hide hfin
        have HO := hide hown
        clear hfin hown hnw hcur hS2 gS gl gq hSp hv1 hcap
        go_wp2_with fail
        go_region_with (fail)
        all_goals
          go_wp2_with fail
          go_roundw
          case rel => exact ⟨n + 1, q', r', j, _, _, by omega, by go_num, rfl, by first | exact hmod | exact hmod.drew | exact hmod.drewN _, HO.out.drew, HF⟩
          case measure => simp [intOf]; omega
    · obtain rfl : n = B.length := by omega
      have hd := hS.out.1
      have hl := hd.left
      have hr8 := hS.out.2.1
      obtain rfl : jn = 0 := by omega
      have hdone := hide hd.done
      have hVl := hS.out.2.2.2
      clear hd hl hr8 hS
      go_wp2_with fail
      refine (c_Of vv V _ hv.slice hdone.out.2.1 (by omega)).mono ?_
      rintro e w2 ⟨v2, L2, rfl, m2, hs2, hc2, hv2, hl2⟩
      have m12 : Mod [] w w2 := Mod.trans (U := []) hm m2 (by simp) (by simp)
      have HV := hide hv2
      have HL2 := hide (show L2.length ≤ 1000000 by omega)
      clear hv2 hl2 hVl
      go_wp2_with fail
      go_ret
      exact ⟨v2, L2, rfl, m12, hs2, hc2, HV.out.trans hdone.out.2.2, HL2.out⟩
end Go.Proofs.Ytgejcabgcemllaa
