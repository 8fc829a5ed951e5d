/- bigmod's setBytes and resetToBytes, where the bytes fit. minusInverseModW is right: Newton's way doubles the bits that are right. bigmod's newModulus, NewModulus and Modulus.Nat. -/
import Derived.Test.YtkhopfobjijnlaaGreatDoorM08
import Derived.Test.YtkhopfobjijnlaaGreatDoorM05
import Derived.Test.YtkhopfobjijnlaaGreatDoorM02
import Derived.WalkSpells
set_option linter.all false
namespace Go.Proofs.YtkhopfobjijnlaaGreatDoor
open Go.RowKit

/-- What setBytes has done: k words and t bytes of the next one, i bytes are left. -/
structure SB (B V : List Nat) (n k t i : Nat) : Prop where
  len : V.length = n
  words : Words V
  zero : ∀ j, k < j → nth V j = 0
  left : i + 8 * k + t = B.length
  cur : nth V k = bseg B (i + t) t
  val : val V = bseg B B.length (8 * k + t)

theorem pow256_8 (k : Nat) : 256 ^ (8 * k) = W ^ k := by rw [Nat.pow_mul, W_eq]
theorem SB.start (B : List Nat) (n : Nat) : SB B (List.replicate n 0) n 0 0 B.length :=
  ⟨by simp, Words.replicate0 _, fun j _ => nth_replicate0 _ _, by omega, by rw [nth_replicate0]; rfl, by rw [val_replicate0]; rfl⟩
theorem SB.word {B V : List Nat} {n k i : Nat} (h : SB B V n k 0 (i + 8)) (hB : Bytes B) (hk : k < n) : SB B (V.set k (be8 B i)) n (k + 1) 0 i := by
  have hl := h.left
  refine ⟨by simp [h.len], h.words.set _ (be8_lt hB i), fun j hj => by rw [nth_set_ne (by omega)]; exact h.zero j (by omega), by omega, ?_, ?_⟩
  · rw [nth_set_ne (by omega), h.zero _ (by omega)]; rfl
  · have hv := val_set (V := V) (k := k) (v := be8 B i) (by rw [h.len]; exact hk)
    have hc : nth V k = 0 := h.cur
    have h2 := bseg_add B B.length (8 * k) 8
    rw [show B.length - 8 * k = i + 8 by omega, pow256_8, ← be8_seg] at h2
    have h3 := h.val
    rw [Nat.add_zero] at h3
    rw [show 8 * (k + 1) + 0 = 8 * k + 8 by omega, h2, ← h3]
    rw [hc] at hv
    omega
theorem SB.byte {B V : List Nat} {n k t i : Nat} (h : SB B V n k t (i + 1)) (hB : Bytes B) (hk : k < n) (ht : t < 8) : SB B (V.set k (nth V k + nth B i * 2 ^ (8 * t))) n k (t + 1) i := by
  have hl := h.left
  have e : (256 : Nat) ^ t = 2 ^ (8 * t) := by rw [Nat.pow_mul]
  have hcur : nth V k + nth B i * 2 ^ (8 * t) = bseg B (i + (t + 1)) (t + 1) := by
    rw [h.cur, bseg, show i + 1 + t = i + (t + 1) by omega, show i + (t + 1) - 1 - t = i by omega, e, Nat.mul_comm]
  refine ⟨by simp [h.len], h.words.set _ ?_, fun j hj => by rw [nth_set_ne (by omega)]; exact h.zero j (by omega), by omega, by rw [nth_set_same (by rw [h.len]; exact hk)]; exact hcur, ?_⟩
  · rw [hcur]
    refine Nat.lt_of_lt_of_le (bseg_lt hB _ _) ?_
    rw [show W = 256 ^ 8 by rw [W_eq]]
    exact Nat.pow_le_pow_right (by omega) (by omega)
  · have hv := val_set (V := V) (k := k) (v := nth V k + nth B i * 2 ^ (8 * t)) (by rw [h.len]; exact hk)
    rw [show 8 * k + (t + 1) = 8 * k + t + 1 by omega, bseg, ← h.val, show B.length - 1 - (8 * k + t) = i by omega, Nat.pow_add, pow256_8, e]
    rw [Nat.mul_add] at hv
    rw [Nat.mul_assoc, Nat.mul_comm (2 ^ (8 * t)) (nth B i)]
    omega

theorem SB.done {B V : List Nat} {n k t : Nat} (h : SB B V n k t 0) : V.length = n ∧ Words V ∧ Go.Proofs.YtkhopfobjijnlaaGreatDoor.val V = bval B := by
  refine ⟨h.len, h.words, ?_⟩
  have := h.left
  rw [h.val, show 8 * k + t = B.length by omega]
  rfl
theorem byte_or {a b s : Nat} (t : Nat) (hs : s = 8 * t) (ht : t < 8) (ha : a < 256 ^ t) (hb : b < 256) : bits .or .u64 (a : Int) (IntKind.u64.wrap ((b : Int) * 2 ^ s)) = ((a + b * 2 ^ (8 * t) : Nat) : Int) := by
  subst hs
  have e : (256 : Nat) ^ t = 2 ^ (8 * t) := by rw [Nat.pow_mul]
  rw [e] at ha
  have hlt : b * 2 ^ (8 * t) < 2 ^ 64 := by
    have h1 : b * 2 ^ (8 * t) < 2 ^ 8 * 2 ^ (8 * t) := Nat.mul_lt_mul_of_pos_right (by omega) (Nat.pow_pos (by omega))
    rw [← Nat.pow_add] at h1
    exact Nat.lt_of_lt_of_le h1 (Nat.pow_le_pow_right (by omega) (by omega))
  have ha64 : a < 2 ^ 64 := Nat.lt_of_lt_of_le ha (Nat.pow_le_pow_right (by omega) (by omega))
  have e2 : ((b : Int) * 2 ^ (8 * t)) = ((b * 2 ^ (8 * t) : Nat) : Int) := by rw [Int.natCast_mul, Int.natCast_pow]; rfl
  rw [e2, u64_wrap_id _ (by omega) (by omega)]
  have := bits_join_low .u64 64 (by decide) wraps_u64 (8 * t) (a : Int) ((b * 2 ^ (8 * t) : Nat) : Int) (by omega) (by exact_mod_cast ha) (by omega) (by omega)
    (by rw [Int.natCast_mul, Int.natCast_pow]; exact Int.mul_emod_left _ _) (by omega)
  rw [this]
  omega

set_option maxRecDepth 100000 in
set_option maxHeartbeats 4000000 in
theorem c_setBytes (x p n bb o c : Nat) (R B : List Nat) (w : World) (h : NatIs w x p (List.replicate n 0) R) (hb : CellsB w bb o B) (hB : Bytes B) (hc : B.length ≤ c) (hne : bb ≠ p) (hfit : B.length ≤ 8 * n) :
    Calls Tryz.prog 80 #[ptr x, sl bb o B.length c] w fun e w' =>
      ∃ V, e = .returned .nilIface ∧ Mod [p] w w' ∧ NatIs w' x p V R ∧ V.length = n ∧ Words V ∧ val V = bval B := by
  have hcap := h.cap
  rw [List.length_replicate] at hcap
  have h00 : bb < w.heap.size ∨ B.length = 0 := by
    rcases Nat.eq_zero_or_pos B.length with h0 | h0
    · exact .inr h0
    · exact .inl (hb.lt h0)
  go_enter Tryz.func80, Tryz.ntmps80
  go_wp2_with fail
  go_loopw [5, 6] (fun i k wr => ∃ (jn kn : Nat) (V : List Nat), i = i64 jn ∧ k = i64 kn ∧ kn ≤ n ∧ Hid (SB B V n kn 0 jn) ∧ jn ≤ B.length ∧ Mod [p] w wr ∧ NatIs wr x p V R) (fun i _ _ => (intOf i).toNat)
  case atStart => exact ⟨B.length, 0, _, rfl, rfl, by omega, hide (SB.start B n), by omega, Mod.refl _ _, h⟩
  case round =>
    obtain ⟨j, k, V, rfl, rfl, hk, hS, hj, hm, hx⟩ := hrel
    have hVl := hS.out.len
    have hl := hS.out.left
    have hcx := hx.cell
    rw [hVl] at hcx
    by_cases hgo : k < n ∧ 8 ≤ j
    · obtain ⟨hlt, h8⟩ := hgo
      obtain ⟨i, hij⟩ : ∃ i, j = i + 8 := ⟨j - 8, by omega⟩
      have C := hide (c_beUint' bb o i (j - i) (c - i) B wr.drew ((hb.mod hm (by simpa using hne)).drew) hB (by omega) (by omega) (by omega))
      have hcp := hx.at k (by omega)
      have hfp := hx.row.frozen k
      have e8 : IntKind.i64.wrap ((j : Int) - 8) = (i : Int) := by rw [IntKind.wrap_i64]; omega
      have g1 : (i : Int) ≤ (j : Int) := by omega
      have g2 : ¬ c = i := by omega
      have g3 : (j : Int) ≤ (c : Int) := by omega
      have hS2 := hide ((show SB B V n k 0 (i + 8) by rw [← hij]; exact hS.out).word hB hlt)
      have HIJ := hide hij
      have HVL := hide hVl
      clear hij hl hVl
      go_wp2_with fail
      go_region_with (go_at_call 110; refine C.out.mono ?_; rintro e w' ⟨rfl, k2, rfl⟩)
      all_goals
        have hm2 : Mod [p] w ((wr.drewN (1 + k2)).setCell ⟨p, k, none⟩ (u64 (be8 B i))) := (hm.drewN _).setCell _ _ (by simp)
        have hx2 : NatIs ((wr.drewN (1 + k2)).setCell ⟨p, k, none⟩ (u64 (be8 B i))) x p (V.set k (be8 B i)) R :=
          (hx.drewN (1 + k2)).put (by simp) (Below.heap_setCell _ _ _ _ hx.ne) (row_set (hx.drewN (1 + k2)).row (by rw [HVL.out]; exact hlt))
        go_wp2_with fail
        go_roundw
        case rel => exact ⟨i, k + 1, _, rfl, by go_num, by omega, hS2, by have := HIJ.out; omega, hm2, hx2⟩
        case measure => have := HIJ.out; simp [intOf]; omega
    · have hex : (k < n ∧ j < 8) ∨ (¬ k < n ∧ j = 0 ∧ k = n) := by omega
      clear hgo hl hj hk
      have HVL := hide hVl
      clear hVl hcx
      obtain ⟨wo, rfl⟩ : ∃ wo : World, wo = wr := ⟨_, rfl⟩
      rcases hex with ⟨h1, h2⟩ | ⟨h1, rfl, h3⟩
      · have h8 : ¬ (8 : Int) ≤ (j : Int) := by omega
        have hcx := hx.cell
        rw [HVL.out] at hcx
        go_wp2_with fail
        clear hcx h8
        go_loopw [5, 7] (fun i s wr => ∃ (jn sn t : Nat) (V : List Nat), i = i64 jn ∧ s = i64 sn ∧ Hid (sn = 8 * t) ∧ jn + t < 8 ∧ sn < 64 ∧ Hid (SB B V n k t jn) ∧ Mod [p] w wr ∧ NatIs wr x p V R) (fun i _ _ => (intOf i).toNat)
        case atStart => exact ⟨j, 0, 0, V, rfl, rfl, hide rfl, h2, by omega, hS, hm, hx⟩
        case round =>
          clear hm hx hS HVL h2 V
          obtain ⟨j, sn, t, V, rfl, rfl, hs, h2, hs2, hS, hm, hx⟩ := hrel
          have hVl := hS.out.len
          have hl := hS.out.left
          have hcx := hx.cell
          rw [hVl] at hcx
          by_cases h0 : 0 < j
          · obtain ⟨i, hij⟩ : ∃ i, j = i + 1 := ⟨j - 1, by omega⟩
            have hcp := hx.at k (by omega)
            have hfp := hx.row.frozen k
            have hcb := (hb.mod hm (by simpa using hne)) i (by omega)
            have e1 : IntKind.i64.wrap ((j : Int) - 1) = (i : Int) := by rw [IntKind.wrap_i64]; omega
            have ebt : IntKind.u64.wrap (nth B i : Int) = (nth B i : Int) := by have := hB i; exact u64_wrap_id _ (by omega) (by omega)
            have hib : (i : Int) < (B.length : Int) := by omega
            have hS1 : SB B V n k t (i + 1) := by rw [← hij]; exact hS.out
            have hcur : nth V k < 256 ^ t := by rw [hS1.cur]; exact bseg_lt hB _ _
            have hor := byte_or t hs.out (by omega) hcur (hB i)
            have hS2 := hide (hS1.byte hB h1 (by omega))
            obtain ⟨nw, hnw⟩ : ∃ nw, nw = nth V k + nth B i * 2 ^ (8 * t) := ⟨_, rfl⟩
            rw [← hnw] at hor hS2
            have HIJ := hide hij
            have HVL := hide hVl
            have h2' : i + (t + 1) < 8 := by omega
            have hs3 : Hid (sn + 8 = 8 * (t + 1) ∧ sn + 8 < 64) := hide (by have := hs.out; omega)
            have e8 : IntKind.i64.wrap ((sn : Int) + 8) = ((sn + 8 : Nat) : Int) := by rw [IntKind.wrap_i64]; omega
            clear hij hl hVl hnw hcur h2 hS hs hS1
            go_wp2_with fail
            go_region_with (fail)
            all_goals
              have hm2 : Mod [p] w ((wr.setCell ⟨p, k, none⟩ (.int .u64 (nw : Int))).drew) := (hm.setCell _ _ (by simp)).drew
              have hx2 : NatIs ((wr.setCell ⟨p, k, none⟩ (.int .u64 (nw : Int))).drew) x p (V.set k nw) R :=
                (hx.put (by simp) (Below.heap_setCell _ _ _ _ hx.ne) (row_set hx.row (by rw [HVL.out]; exact h1))).drew
              go_wp2_with fail
              go_roundw
              case rel => exact ⟨i, sn + 8, t + 1, _, rfl, by go_num, hide hs3.out.1, h2', hs3.out.2, hS2, hm2, hx2⟩
              case measure => have := HIJ.out; simp [intOf]; omega
          · obtain rfl : j = 0 := by omega
            have hdone := hide hS.out.done
            clear h2 hl hs hS h0
            go_wp2_with fail
            go_ret
            exact ⟨V, rfl, hm, hx, hdone.out⟩
      · have hdone := hide hS.out.done
        have hcx := hx.cell
        rw [HVL.out] at hcx
        go_wp2_with fail
        go_loop [5, 7] (fun i s => i = i64 0 ∧ s = i64 0) (fun _ _ => 0)
        case atStart => exact ⟨rfl, rfl⟩
        case round =>
          obtain ⟨rfl, rfl⟩ := hrel
          go_wp2_with fail
          go_ret
          first | exact ⟨V, rfl, hm, hx, hdone.out⟩ | exact ⟨rfl, hm, V, hx, hdone.out⟩

set_option maxRecDepth 100000 in
theorem c_setBytes_nil (x p : Nat) (R : List Nat) (w : World) (h : NatIs w x p [] R) (a : Option Addr) (c : Nat) :
    Calls Tryz.prog 80 #[ptr x, .slice a 0 c] w fun e w' => e = .returned .nilIface ∧ w = w' := by
  have hcx := h.cell
  simp only [List.length_nil] at hcx
  go_enter Tryz.func80, Tryz.ntmps80
  go_wp2_with fail
  go_loop [5, 6] (fun i k => i = i64 0 ∧ k = i64 0) (fun _ _ => 0)
  case atStart => exact ⟨rfl, rfl⟩
  case round =>
    obtain ⟨rfl, rfl⟩ := hrel
    go_wp2_with fail
    go_loop [5, 7] (fun i s => i = i64 0 ∧ s = i64 0) (fun _ _ => 0)
    case atStart => exact ⟨rfl, rfl⟩
    case round =>
      obtain ⟨rfl, rfl⟩ := hrel
      go_wp2_with fail
      go_ret
      exact ⟨rfl, rfl⟩

/-- The bytes lie in a row that is not p, or there are none. -/
def Apart (v : Value) (p : Nat) : Prop := ∀ b o n c, v = sl b o n c → b ≠ p

theorem c_setBytesS (x p n : Nat) (v : Value) (R B : List Nat) (w : World) (h : NatIs w x p (List.replicate n 0) R) (hb : SliceB w v B) (hB : Bytes B) (hne : Apart v p) (hn : n = (B.length + 7) / 8) :
    Calls Tryz.prog 80 #[ptr x, v] w fun e w' =>
      ∃ V, e = .returned .nilIface ∧ Mod [p] w w' ∧ NatIs w' x p V R ∧ V.length = n ∧ Words V ∧ val V = bval B := by
  rcases hb with ⟨rfl, rfl⟩ | ⟨a, c, rfl, rfl⟩ | ⟨b, o, c, rfl, hc, hb⟩
  · obtain rfl : n = 0 := by simp at hn; omega
    refine (c_setBytes_nil x p R w h none 0).mono ?_
    rintro e w' ⟨rfl, rfl⟩
    exact ⟨[], rfl, Mod.refl _ _, h, rfl, Words.nil, rfl⟩
  · obtain rfl : n = 0 := by simp at hn; omega
    refine (c_setBytes_nil x p R w h (some a) c).mono ?_
    rintro e w' ⟨rfl, rfl⟩
    exact ⟨[], rfl, Mod.refl _ _, h, rfl, Words.nil, rfl⟩
  · exact c_setBytes x p n b o c R B w h hb hB hc (hne _ _ _ _ rfl) (by omega)

theorem SliceB.mod {w w' : World} {S : List Nat} {v : Value} {B : List Nat} (h : SliceB w v B) (m : Mod S w w') (hS : ∀ x, x ∈ S → Apart v x) : SliceB w' v B := by
  rcases h with ⟨rfl, rfl⟩ | ⟨a, c, rfl, rfl⟩ | ⟨b, o, c, rfl, hc, hb⟩
  · exact .inl ⟨rfl, rfl⟩
  · exact .inr (.inl ⟨a, c, rfl, rfl⟩)
  · refine .inr (.inr ?_)
    exact ⟨b, o, c, rfl, hc, hb.mod m (fun hx => hS b hx _ _ _ _ rfl rfl)⟩

theorem trim_facts {V : List Nat} (hW : Words V) : Words (V.take (trimN V V.length)) ∧ val (V.take (trimN V V.length)) = val V ∧
    ((V.take (trimN V V.length)).length ≠ 0 → nth (V.take (trimN V V.length)) ((V.take (trimN V V.length)).length - 1) ≠ 0) ∧ (V.take (trimN V V.length)).length ≤ V.length := by
  have hle := trimN_le V V.length
  have hl : (V.take (trimN V V.length)).length = trimN V V.length := by simp; omega
  refine ⟨hW.take _, ?_, ?_, by omega⟩
  · rw [trimN_val V.length (Nat.le_refl _), List.take_length]
  · rw [hl]
    intro h0
    have := trimN_top V.length h0
    have e : nth (V.take (trimN V V.length)) (trimN V V.length - 1) = nth V (trimN V V.length - 1) := by
      simp [nth, show trimN V V.length - 1 < trimN V V.length by omega]
    rw [e]
    exact this

set_option maxRecDepth 100000 in
set_option maxHeartbeats 1600000 in
theorem c_resetToBytes (x p : Nat) (v : Value) (L R B : List Nat) (w : World) (h : NatIs w x p L R) (hb : SliceB w v B) (hB : Bytes B) (hx : Apart v x) (hp : Apart v p) (hnew : ∀ b o n c, v = sl b o n c → b < w.heap.size) (hbig : B.length ≤ 100000) :
    Calls Tryz.prog 77 #[ptr x, v] w fun e w' =>
      ∃ p' V R', e = .returned (ptr x) ∧ Mod [x, p] w w' ∧ NatIs w' x p' V R' ∧ Kept w p p' ∧ Words V ∧ val V = bval B ∧ (V.length ≠ 0 → nth V (V.length - 1) ≠ 0) ∧ V.length ≤ (B.length + 7) / 8 := by
  obtain ⟨n, hn⟩ : ∃ n, n = (B.length + 7) / 8 := ⟨_, rfl⟩
  have hcases : ∃ a c, v = .slice a B.length c := by
    rcases hb with ⟨rfl, rfl⟩ | ⟨a, c, rfl, rfl⟩ | ⟨b, o, c, rfl, hc, hb⟩
    · exact ⟨_, _, rfl⟩
    · exact ⟨_, _, rfl⟩
    · exact ⟨_, _, rfl⟩
  obtain ⟨a, c, hv⟩ := hcases
  have e3 : ((B.length : Int) + 8 - 1) / 8 = (n : Int) := by omega
  have E3 := hide e3
  clear e3
  have H : ∀ w1, Mod [x, p] w w1 → ∀ p1 R1, NatIs w1 x p1 (List.replicate n 0) R1 → Kept w p p1 → Hid (SliceB w1 v B ∧ Apart v p1) := by
    intro w1 m1 p1 R1 h1 k1
    refine hide ⟨hb.mod m1 (by simp; exact ⟨hx, hp⟩), ?_⟩
    intro b o n c hv
    have h0 := hp _ _ _ _ hv
    have h2 := hnew _ _ _ _ hv
    rcases k1 with k1 | k1
    · rw [k1]; exact h0
    · omega
  subst hv
  go_enter Tryz.func77, Tryz.ntmps77
  go_wp2_with fail
  rw [E3.out]
  refine (c_reset x p n L R _ h (by omega)).mono ?_
  rintro e w1 ⟨p1, R1, rfl, m1, hx1, k1⟩
  have HH := H w1 m1 p1 R1 hx1 k1
  go_wp2_with fail
  refine (c_setBytesS x p1 n _ R1 B _ hx1 HH.out.1 hB HH.out.2 hn).mono ?_
  rintro e w2 ⟨V, rfl, m2, hx2, hVl, hVw, hVv⟩
  go_wp2_with fail
  refine (c_trim x p1 V R1 _ hx2).mono ?_
  rintro e w3 ⟨R3, rfl, m3, hx3⟩
  have HF := hide (trim_facts hVw)
  have m12 : Mod [x, p] w w2 := Mod.trans (U := [x, p]) m1 m2 (fun a ha _ => ha) (fun a ha hlt => by
    simp at ha
    rcases k1 with hk | hk
    · simp [ha, hk]
    · omega)
  have m13 : Mod [x, p] w w3 := Mod.trans (U := [x, p]) m12 m3 (fun a ha _ => ha) (by simp)
  have HN := hide hn
  have HVL := hide hVl
  have HVV := hide hVv
  clear hVl hVv hn
  go_wp2_with fail
  go_ret
  obtain ⟨f1, f2, f3, f4⟩ := HF.out
  exact ⟨p1, _, R3, rfl, m13, hx3, k1, f1, f2.trans HVV.out, f3, Nat.le_trans f4 (by rw [HVL.out, HN.out]; exact Nat.le_refl _)⟩
end Go.Proofs.YtkhopfobjijnlaaGreatDoor
namespace Go.Proofs.YtkhopfobjijnlaaGreatDoor

theorem nstep_eq (x y : Nat) : ∃ q : Int, (nstep x y : Int) = y * (2 - x * y) + W * q := by
  have hW := W_pos
  have h3 := Nat.mod_add_div (x * y) W
  have h4 := Nat.mod_lt (x * y) hW
  have h2 := Nat.mod_add_div (W + 2 - x * y % W) W
  have h1 := Nat.mod_add_div (y * ((W + 2 - x * y % W) % W)) W
  unfold nstep
  generalize hr : x * y % W = r at *
  generalize hs : (W + 2 - r) % W = s at *
  generalize hu : y * s % W = u at *
  generalize (x * y) / W = q3 at *
  generalize (W + 2 - r) / W = q2 at *
  generalize (y * s) / W = q1 at *
  have h2' : (s : Int) + W * q2 = W + 2 - r := by
    have : s + W * q2 + r = W + 2 := by omega
    exact_mod_cast (by omega : ((s + W * q2 : Nat) : Int) = (W : Int) + 2 - r)
  have h1' : (u : Int) + W * q1 = y * s := by exact_mod_cast h1
  have h3' : (r : Int) + W * q3 = x * y := by exact_mod_cast h3
  refine ⟨y * (1 - q2 + q3) - q1, ?_⟩
  grind

theorem nstep_law {x y : Nat} {c d : Int} (hc : c ∣ 1 - (x : Int) * y) (hd : d ∣ c * c) (hW : d ∣ (W : Int)) : d ∣ 1 - (x : Int) * nstep x y := by
  obtain ⟨q, hq⟩ := nstep_eq x y
  obtain ⟨a, ha⟩ := hc
  obtain ⟨b, hb⟩ := hd
  obtain ⟨e, he⟩ := hW
  refine ⟨b * a * a - e * (x * q), ?_⟩
  rw [hq]
  grind

theorem odd_sq {x : Nat} (h : x % 2 = 1) : (8 : Int) ∣ 1 - (x : Int) * x := by
  obtain ⟨k, rfl⟩ : ∃ k, x = 2 * k + 1 := ⟨x / 2, by omega⟩
  obtain ⟨j, hj⟩ : ∃ j, k * (k + 1) = 2 * j := by
    rcases Nat.mod_two_eq_zero_or_one k with h0 | h0
    · exact ⟨k / 2 * (k + 1), by rw [← Nat.mul_assoc, show 2 * (k / 2) = k by omega]⟩
    · exact ⟨k * ((k + 1) / 2), by rw [Nat.mul_left_comm, show 2 * ((k + 1) / 2) = k + 1 by omega]⟩
  refine ⟨-(j : Int), ?_⟩
  have hj' : (k : Int) * (k + 1) = 2 * j := by exact_mod_cast hj
  push_cast
  grind

theorem newton_law {x : Nat} (h : x % 2 = 1) : (W : Int) ∣ 1 - (x : Int) * newton x 5 := by
  have h0 := odd_sq h
  have h1 := nstep_law (d := 64) h0 (by decide) (by rw [W_eq]; decide)
  have h2 := nstep_law (d := 4096) h1 (by decide) (by rw [W_eq]; decide)
  have h3 := nstep_law (d := 16777216) h2 (by decide) (by rw [W_eq]; decide)
  have h4 := nstep_law (d := 281474976710656) h3 (by decide) (by rw [W_eq]; decide)
  have h5 := nstep_law (d := (W : Int)) h4 (by rw [W_eq]; decide) (Int.dvd_refl _)
  exact h5

theorem m0inv_law {x : Nat} (h : x % 2 = 1) : (m0inv x * x) % W = W - 1 := by
  obtain ⟨a, ha⟩ := newton_law h
  have hx : x % 2 = 1 := h
  have hlt : newton x 5 < W := Nat.mod_lt _ W_pos
  have hne : newton x 5 ≠ 0 := by
    intro h0
    rw [h0] at ha
    have : (W : Int) * a = 1 := by simpa using ha.symm
    have h2 : (2 : Int) ∣ 1 := ⟨9223372036854775808 * a, by rw [W_eq] at this; omega⟩
    omega
  have e : m0inv x = W - newton x 5 := by unfold m0inv; rw [Nat.mod_eq_of_lt (by omega)]
  rw [e]
  generalize newton x 5 = y at *
  have h1 : ((W - y : Nat) : Int) = (W : Int) - y := by omega
  have h2 : (((W - y) * x : Nat) : Int) = (W : Int) * (x + a - 1) + (W - 1) := by
    rw [Int.natCast_mul, h1]
    grind
  have hW := W_pos
  have h3 : (((W - y) * x % W : Nat) : Int) = (W : Int) - 1 := by
    rw [Int.natCast_emod, h2, Int.mul_add_emod_self_left, Int.emod_eq_of_lt (by omega) (by omega)]
  omega
end Go.Proofs.YtkhopfobjijnlaaGreatDoor
namespace Go.Proofs.YtkhopfobjijnlaaGreatDoor
open Go.RowKit

/-- What stands behind a modulus' head: for an odd one its word and its R * R. -/
structure ModIs (w : World) (n m x p : Nat) (M R : List Nat) : Prop where
  nat : NatIs w x p M R
  words : Words M
  top : M.length ≠ 0 → nth M (M.length - 1) ≠ 0
  big : 1 < val M
  room : M.length ≤ 20000
  even : val M % 2 = 0 → MHead w m x false 0 (.pointer none)
  odd : val M % 2 = 1 → ∃ k y q X S, MHead w m x true k (ptr y) ∧ (k * nth M 0) % W = W - 1 ∧ NatIs w y q X S ∧ Below' X M ∧ val X = (W ^ M.length * W ^ M.length) % val M ∧ n ≤ y ∧ n ≤ q
  new : n ≤ m

theorem val_parity {M : List Nat} : nth M 0 % 2 = val M % 2 := by
  cases M with
  | nil => rfl
  | cons a l => simp only [nth, val, List.getD_cons_zero]; rw [W_eq]; omega

theorem len_pos {M : List Nat} (h : 1 < val M) : 0 < M.length := by
  cases M with
  | nil => simp [val] at h
  | cons a l => simp

set_option maxRecDepth 100000 in
set_option maxHeartbeats 1600000 in
theorem c_newModulus_small (x p : Nat) (M R : List Nat) (w : World) (h : NatIs w x p M R) (hs : val M ≤ 1) :
    Calls Tryz.prog 78 #[ptr x] w fun e w' => ∃ q, e = .returned (.tuple #[.pointer none, .iface 149 (ptr q)]) ∧ Mod [] w w' := by
  have hb : NatIs (w.alloc (.cells #[ptr x, .bool false, .int .u64 0, .pointer none] 107)) x p M R := ⟨h.head.alloc _, h.row.alloc _, h.cap⟩
  have m0 : Mod [] w (w.alloc (.cells #[ptr x, .bool false, .int .u64 0, .pointer none] 107)) := (Mod.refl _ _).alloc _
  have hcases : (eqB (val M) 0 = 1) ∨ (eqB (val M) 0 = 0 ∧ eqB (val M) 1 = 1) := by
    unfold eqB
    by_cases h0 : val M = 0
    · left; rw [if_pos h0]
    · right; rw [if_neg h0, if_pos (by omega)]; exact ⟨rfl, rfl⟩
  clear hs
  rcases hcases with e0 | ⟨e0, e1⟩
  · go_enter Tryz.func78, Tryz.ntmps78
    go_wp2_with fail
    refine (c_IsZero x p M R _ hb).mono ?_; rintro e w' ⟨rfl, rfl⟩
    go_wp2_with fail
    refine (c_errNew _ _).mono ?_; rintro e w2 ⟨q, rfl, m2⟩
    have m02 : Mod [] w w2 := Mod.trans (U := []) m0 m2 (by simp) (by simp)
    go_wp2_with fail
    go_ret2
    exact ⟨q, rfl, m02⟩
  · have hlen : 0 < M.length := by
      rcases Nat.eq_zero_or_pos M.length with h0 | h0
      · rw [List.eq_nil_of_length_eq_zero h0, val_nil] at e0; simp [eqB] at e0
      · exact h0
    have HLEN := hide hlen
    clear hlen
    go_enter Tryz.func78, Tryz.ntmps78
    go_wp2_with fail
    refine (c_IsZero x p M R _ hb).mono ?_; rintro e w' ⟨rfl, rfl⟩
    go_wp2_with fail
    refine (c_IsOne x p M R _ hb).mono ?_; rintro e w' ⟨rfl, rfl⟩
    go_wp2_with fail
    refine (c_errNew _ _).mono ?_; rintro e w2 ⟨q, rfl, m2⟩
    have m02 : Mod [] w w2 := Mod.trans (U := []) m0 m2 (by simp) (by simp)
    go_wp2_with fail
    go_ret2
    exact ⟨q, rfl, m02⟩

set_option maxRecDepth 100000 in
set_option maxHeartbeats 1600000 in
theorem c_newModulus (x p : Nat) (M R : List Nat) (w : World) (h : NatIs w x p M R) (hW : Words M) (hs : 1 < val M) (htop : M.length ≠ 0 → nth M (M.length - 1) ≠ 0) (hroom : M.length ≤ 20000) :
    Calls Tryz.prog 78 #[ptr x] w fun e w' => ∃ m, e = .returned (.tuple #[ptr m, .nilIface]) ∧ Mod [] w w' ∧ ModIs w' w.heap.size m x p M R := by
  obtain ⟨w1, hw1⟩ : ∃ w1, w1 = w.alloc (.cells #[ptr x, .bool false, .int .u64 0, .pointer none] 107) := ⟨_, rfl⟩
  obtain ⟨m, hm⟩ : ∃ m, m = w.heap.size := ⟨_, rfl⟩
  have hb : NatIs w1 x p M R := by rw [hw1]; exact ⟨h.head.alloc _, h.row.alloc _, h.cap⟩
  have m0 : Mod [] w w1 := by rw [hw1]; exact (Mod.refl _ _).alloc _
  have hh : MHead w1 m x false 0 (.pointer none) := by rw [hw1, hm]; exact Blk.new w _ [ptr x, .bool false, u64 0, .pointer none]
  have hxm : x ≠ m := by have := h.xlt; omega
  have hpm : p ≠ m := by have := h.plt; omega
  have e0 : eqB (val M) 0 = 0 := by unfold eqB; rw [if_neg (by omega)]
  have e1 : eqB (val M) 1 = 0 := by unfold eqB; rw [if_neg (by omega)]
  have hlen := len_pos hs
  have HW1 := hide hw1
  have HM := hide hm
  have HT := hide htop
  clear hw1 hm htop
  rcases Nat.mod_two_eq_zero_or_one (val M) with hev | hod
  · go_enter Tryz.func78, Tryz.ntmps78
    go_wp2_with fail
    rw [← HW1.out, ← HM.out]
    refine (c_IsZero x p M R _ hb).mono ?_; rintro e w' ⟨rfl, rfl⟩
    have hc0 := hh.c0
    go_wp2_with fail
    refine (c_IsOne x p M R _ hb).mono ?_; rintro e w' ⟨rfl, rfl⟩
    go_wp2_with fail
    refine (c_IsOdd x p M R _ hb hW).mono ?_; rintro e w' ⟨rfl, rfl⟩
    rw [hev]
    have HEV := hide hev
    clear hev
    go_wp2_with fail
    go_ret2
    exact ⟨m, rfl, m0, hb, hW, HT.out, hs, hroom, fun _ => hh, fun hod => by have := HEV.out; omega, by rw [HM.out]; omega⟩
  · have hw0 := hb.at 0 hlen
    obtain ⟨k, hk⟩ : ∃ k, k = m0inv (nth M 0) := ⟨_, rfl⟩
    have hkl : (k * nth M 0) % W = W - 1 := by rw [hk]; exact m0inv_law (by rw [val_parity]; exact hod)
    have HK := hide hk
    have HKL := hide hkl
    clear hk hkl
    go_enter Tryz.func78, Tryz.ntmps78
    go_wp2_with fail
    rw [← HW1.out, ← HM.out]
    refine (c_IsZero x p M R _ hb).mono ?_; rintro e w' ⟨rfl, rfl⟩
    have hc0 := hh.c0
    go_wp2_with fail
    refine (c_IsOne x p M R _ hb).mono ?_; rintro e w' ⟨rfl, rfl⟩
    go_wp2_with fail
    refine (c_IsOdd x p M R _ hb hW).mono ?_; rintro e w' ⟨rfl, rfl⟩
    rw [hod]
    have HOD := hide hod
    clear hod
    have hf1 := hh.frozen 1
    have hf2 := hh.frozen 2
    have hf3 := hh.frozen 3
    have hc1 := hh.c1
    have hc2 := hh.c2
    have hcx := hb.cell
    go_wp2_with fail
    refine (c_minusInverse (nth M 0) (hW.nth 0) _).mono ?_; rintro e w' ⟨rfl, rfl⟩
    rw [← HK.out]
    have hh2 := (hh.setCell 1 (.bool true)).setCell 2 (u64 k)
    obtain ⟨w2, hw2⟩ : ∃ w2, w2 = (w1.setCell ⟨m, 1, none⟩ (.bool true)).setCell ⟨m, 2, none⟩ (.int .u64 (k : Int)) := ⟨_, rfl⟩
    have m2 : Mod [] w w2 := by rw [hw2]; exact (m0.setCell _ _ (by simp; have := HM.out; omega)).setCell _ _ (by simp; have := HM.out; omega)
    have hb2 : NatIs w2 x p M R := by
      rw [hw2]
      refine ⟨(hb.head.setCell_other _ _ ?_).setCell_other _ _ ?_, (hb.row.setCell_other _ _ ?_).setCell_other _ _ ?_, hb.cap⟩ <;> simp [hxm, hpm]
    have hh3 : MHead w2 m x true k (.pointer none) := by rw [hw2]; exact hh2
    have HW2 := hide hw2
    clear hw2 hh2
    go_wp2_with fail
    rw [← HW2.out]
    refine (c_rr m x p k true _ M R _ hh3 hb2 hW hlen hroom (HT.out (by omega)) hs HOD.out HKL.out).mono ?_
    rintro e w3 ⟨y, q, X, S, rfl, m3, hy3, g1, g2, hbX, hvX⟩
    have hh4 : MHead w3 m x true k (.pointer none) := Blk.mod hh3 m3 (by simp)
    have hb3 := hb2.mod m3 (by simp) (by simp)
    have hf3' := hh4.frozen 3
    have hc3 := hh4.c3
    have hml := hh3.lt
    have hsz := m0.size
    have hsz2 := m2.size
    have hh5 := hh4.setCell 3 (ptr y)
    obtain ⟨w4, hw4⟩ : ∃ w4, w4 = w3.setCell ⟨m, 3, none⟩ (ptr y) := ⟨_, rfl⟩
    have m4 : Mod [] w w4 := by rw [hw4]; exact (Mod.trans (U := []) m2 m3 (by simp) (by simp)).setCell _ _ (by simp; have := HM.out; omega)
    have hb4 : NatIs w4 x p M R := by
      rw [hw4]
      refine ⟨hb3.head.setCell_other _ _ ?_, hb3.row.setCell_other _ _ ?_, hb.cap⟩ <;> simp [hxm, hpm]
    have hy4 : NatIs w4 y q X S := by
      rw [hw4]
      refine ⟨hy3.head.setCell_other _ _ ?_, hy3.row.setCell_other _ _ ?_, hy3.cap⟩ <;> simp <;> omega
    have hh6 : MHead w4 m x true k (ptr y) := by rw [hw4]; exact hh5
    have HVX := hide hvX
    have HW4 := hide hw4
    clear hw4 hh5 hvX
    go_wp2_with fail
    go_ret2
    rw [← HW4.out]
    refine ⟨m, rfl, m4, hb4, hW, HT.out, hs, hroom, fun hev => by have := HOD.out; omega, fun _ => ⟨k, y, q, X, S, hh6, HKL.out, hy4, hbX, HVX.out, ?_, ?_⟩, by rw [HM.out]; omega⟩ <;> omega
end Go.Proofs.YtkhopfobjijnlaaGreatDoor
