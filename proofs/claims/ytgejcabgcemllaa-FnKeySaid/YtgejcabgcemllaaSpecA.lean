/- The call's own rows of numbers, as the specification's functions make them; spec.Small, spec.trim. -/
import Derived.Test.YtgejcabgcemllaaPubB
namespace Go.Proofs.Ytgejcabgcemllaa
open Go.RowKit

/-- A slice of these numbers, each in one cell. -/
def SliceK (k : Nat → Value) (w : World) (v : Value) (L : List Nat) : Prop :=
  (v = .slice none 0 0 ∧ L = []) ∨ ∃ b o c, v = sl b o L.length c ∧ L.length ≤ c ∧ ∀ i, i < L.length → w.cell? ⟨b, o + i, none⟩ = some (k (nth L i))

theorem SliceK.mod {k : Nat → Value} {w w' : World} {S : List Nat} {v : Value} {L : List Nat} (h : SliceK k w v L) (m : Mod S w w') (hS : ∀ x, x ∈ S → Apart v x) : SliceK k w' v L := by
  rcases h with ⟨rfl, rfl⟩ | ⟨b, o, c, rfl, hc, hb⟩
  · exact .inl ⟨rfl, rfl⟩
  · refine .inr ⟨b, o, c, rfl, hc, fun i hi => ?_⟩
    rw [← hb i hi]
    exact World.cell?_of_block (m.block b (block_lt_of_cell (hb i hi)) (fun hx => hS b hx _ _ _ _ rfl rfl))
theorem SliceK.lit {k : Nat → Value} {w : World} {v : Value} {L : List Nat} (h : SliceK k w v L) : ∃ a c, v = .slice a L.length c := by
  rcases h with ⟨rfl, rfl⟩ | ⟨b, o, c, rfl, hc, hb⟩
  · exact ⟨_, _, rfl⟩
  · exact ⟨_, _, rfl⟩

/-- The call's own slice: it owns its row, of the type T. -/
def Own (k : Nat → Value) (T : Nat) (w : World) (base : Nat) (v : Value) (L : List Nat) : Prop := w.ownsRow base T 1 v L.length (L.map k)

theorem Own.blk {k : Nat → Value} {T : Nat} {w : World} {base : Nat} {v : Value} {L : List Nat} (h : Own k T w base v L) :
    (v = .slice none 0 0 ∧ L = []) ∨ ∃ g cap rest, v = sl g 0 L.length cap ∧ base ≤ g ∧ Blk w g T (L.map k ++ rest) ∧ L.length + rest.length = cap ∧ cap ≤ maxLen := by
  obtain ⟨h1, h2⟩ := h
  rcases h2 with ⟨rfl, h0⟩ | ⟨g, cap, cur, rfl, hb, hg, hc, hm, hs, ht⟩
  · exact .inl ⟨rfl, List.eq_nil_of_length_eq_zero h0⟩
  · refine .inr ⟨g, cap, cur.toList.drop L.length, rfl, hb, ?_, ?_, hm⟩
    · unfold Blk
      rw [← ht, Nat.mul_one, List.take_append_drop]
      simpa using hg
    · simp only [List.length_drop, Array.length_toList]; omega
theorem Own.ofBlk {k : Nat → Value} {T : Nat} {w : World} {base g cap : Nat} {L : List Nat} {rest : List Value} (hb : base ≤ g) (h : Blk w g T (L.map k ++ rest)) (hc : L.length + rest.length = cap) (hm : cap ≤ maxLen) :
    Own k T w base (sl g 0 L.length cap) L := by
  refine ⟨by simp, .inr ⟨g, cap, (L.map k ++ rest).toArray, rfl, hb, h, by omega, hm, by simp; omega, ?_⟩⟩
  simp only [Nat.mul_one]
  rw [List.take_append_of_le_length (by simp), List.take_of_length_le (by simp)]
theorem Own.lt {k : Nat → Value} {T : Nat} {w : World} {base : Nat} {v : Value} {L : List Nat} (h : Own k T w base v L) : ∀ b o n c, v = sl b o n c → base ≤ b ∧ b < w.heap.size := by
  intro b o n c e
  exact World.ownsRow.lt h b (by rw [e]; rfl)
theorem Own.slice {k : Nat → Value} {T : Nat} {w : World} {base : Nat} {v : Value} {L : List Nat} (h : Own k T w base v L) : SliceK k w v L := by
  rcases h.blk with ⟨rfl, rfl⟩ | ⟨g, cap, rest, rfl, hb, hg, hc, hm⟩
  · exact .inl ⟨rfl, rfl⟩
  · refine .inr ⟨g, 0, cap, rfl, by omega, fun i hi => ?_⟩
    rw [Nat.zero_add, hg.cell, List.getElem?_append_left (by simpa using hi), map_get hi]
theorem Own.mod {k : Nat → Value} {T : Nat} {w w' : World} {base : Nat} {v : Value} {L : List Nat} {S : List Nat} (h : Own k T w base v L) (m : Mod S w w') (hS : ∀ x, x ∈ S → Apart v x) : Own k T w' base v L := by
  rcases h.blk with ⟨rfl, rfl⟩ | ⟨g, cap, rest, rfl, hb, hg, hc, hm⟩
  · exact ⟨rfl, .inl ⟨rfl, rfl⟩⟩
  · exact Own.ofBlk hb (hg.mod m (fun hx => hS g hx _ _ _ _ rfl rfl)) hc hm
theorem Own.nil (k : Nat → Value) (T : Nat) (w : World) (base : Nat) : Own k T w base (.slice none 0 0) [] := ⟨rfl, .inl ⟨rfl, rfl⟩⟩

/-- append(v, x) where v is the call's own and x lies in a row by itself: the law for the walk. -/
theorem wpl_push {ops : Array Oper} {rest : List Oper} {o : Oper} {a : Act} {Q : Exit → Act → World → Prop} {w : World} (hgd : o.guard = none) (s x : Operand) (t : TypeId)
    (ho : o.op = .call { callee := .builtin .append, args := #[s, x], argTypes := #[t, t] }) (v : Value) (b cap : Nat) (hs : a.eval s = v) (hx : a.eval x = sl b 0 1 cap)
    (k : Nat → Value) {e B : Nat} {z : Value} (h1 : z.cells = #[z]) (ht : Try.prog.underlying t = some (.slice e)) (hi : (Try.prog.info? e).map (fun i => (i.zero, i.size, i.bytes)) = some (some z, 1, B)) (hB : B ≤ 16) (hk : ∀ n, (k n).oneCell' = true)
    {w0 : World} {L : List Nat} {u : Nat} (hw : Mod [] w0 w) (hv : Own k e w w0.heap.size v L) (hc : w.cell? ⟨b, 0, none⟩ = some (k u)) (hn : L.length < 900000)
    (h : ∀ v' w', Own k e w' w0.heap.size v' (L ++ [u]) → Mod [] w0 w' → wpList Try.prog ops Q rest (a.put o.dst v') w') : wpList Try.prog ops Q (o :: rest) a w := by
  obtain ⟨v', w', hr, hown, hgr⟩ := run_app h1 ht hi hB w0.heap.size v L.length (L.map k) w hv ⟨b, 0, none⟩ cap [k u] 1 rfl
    (by
      intro j y hj
      have hj0 : j = 0 := by
        have hl := (List.getElem?_eq_some_iff.1 hj).1
        rw [List.length_singleton] at hl
        omega
      subst hj0
      simp at hj
      subst hj
      rw [add_addr]
      exact hc) (by intro y hy; simp at hy; rw [hy]; exact hk u) (by omega) hw.size o.type
  refine wpl_run2 hgd s x t ho v _ hs hx hr (h v' w' ?_ ?_)
  · unfold Own
    simpa using hown
  · refine Mod.trans (U := []) hw (Mod.grown (S := v.ownBlock.toList) hgr (by intro kk hk _; simp [hk])) (by simp) ?_
    intro y hy hlt
    simp at hy
    have := (World.ownsRow.lt hv y hy).1
    omega

/-- The number of digits of 16 bits, the lowest first. -/
def valS : List Nat → Nat
  | [] => 0
  | x :: l => x + 65536 * valS l
def Digits (L : List Nat) : Prop := ∀ i, nth L i < 65536

theorem valS_append (a b : List Nat) : valS (a ++ b) = valS a + 65536 ^ a.length * valS b := by
  induction a with
  | nil => simp [valS]
  | cons x l ih => simp only [List.cons_append, valS, ih, List.length_cons, Nat.pow_succ, Nat.mul_add]; rw [Nat.add_assoc, ← Nat.mul_assoc, Nat.mul_comm 65536 (65536 ^ l.length)]

theorem Digits.push {L : List Nat} (h : Digits L) {u : Nat} (hu : u < 65536) : Digits (L ++ [u]) := by
  intro i
  rcases Nat.lt_or_ge i L.length with hi | hi
  · rw [nth_append_left hi]; exact h i
  · rw [nth_append_right hi]
    rcases Nat.eq_zero_or_pos (i - L.length) with h0 | h0
    · rw [h0]; exact hu
    · rw [nth_ge (by rw [List.length_singleton]; exact h0)]; omega
/-- No zero at the top. -/
structure Canon (L : List Nat) : Prop where
  digits : Digits L
  top : L.length ≠ 0 → nth L (L.length - 1) ≠ 0

structure SmallAt (n m : Nat) (L : List Nat) : Prop where
  digits : Digits L
  val : valS L + 65536 ^ L.length * m = n
  top : m = 0 → L.length ≠ 0 → nth L (L.length - 1) ≠ 0
theorem SmallAt.next {n m : Nat} {L : List Nat} (h : SmallAt n m L) (h0 : m ≠ 0) : SmallAt n (m / 65536) (L ++ [m % 65536]) := by
  refine ⟨h.digits.push (Nat.mod_lt _ (by omega)), ?_, ?_⟩
  · have h1 := h.val
    have h2 := Nat.mod_add_div m 65536
    rw [valS_append, List.length_append, List.length_singleton, Nat.pow_succ]
    simp only [valS, Nat.mul_zero, Nat.add_zero]
    rw [Nat.add_assoc, Nat.mul_assoc, ← Nat.mul_add, h2]
    exact h1
  · intro hm _
    rw [List.length_append, List.length_singleton, Nat.add_sub_cancel, nth_append_right (Nat.le_refl _), Nat.sub_self]
    show m % 65536 ≠ 0
    omega

theorem info_nat_cells : (Try.prog.info? 3).map (fun i => (i.zero, i.size, i.bytes)) = some (some (.int .i64 0), 1, 8) := by kernel_rfl

set_option maxRecDepth 100000 in
theorem c_Small (n : Nat) (hn : n < 2 ^ 62) (w : World) : Calls Try.prog 15 #[i64 n] w fun e w' => ∃ v L, e = .returned v ∧ Mod [] w w' ∧ Own i64 3 w' w.heap.size v L ∧ Canon L ∧ valS L = n := by
  have hown0 : Own i64 3 (w.alloc (.cells #[] 3)) w.heap.size (sl w.heap.size 0 0 0) [] := Own.ofBlk (rest := []) (Nat.le_refl _) (Blk.new w _ []) rfl (by simp [maxLen])
  have HN := hide hn
  clear hn
  go_enter Try.func15, Try.ntmps15
  go_wp2_with fail
  go_loopw [0, 3] (fun a v wr => ∃ (m : Nat) (L : List Nat) (vv : Value), a = i64 m ∧ vv = v ∧ Mod [] w wr ∧ Own i64 3 wr w.heap.size vv L ∧ Hid (SmallAt n m L)) (fun a _ _ => (intOf a).toNat)
  case atStart => exact ⟨n, [], _, rfl, rfl, (Mod.refl _ _).alloc _, hown0, hide ⟨fun i => by rw [nth_ge (by simp)]; omega, by simp [valS], by simp⟩⟩
  case round =>
    obtain ⟨m, L, vv, rfl, rfl, hm, hv, hS⟩ := hrel
    by_cases h0 : m = 0
    · subst h0
      go_wp2_with fail
      go_ret
      have s1 := hS.out
      exact ⟨vv, L, rfl, hm, hv, ⟨s1.digits, s1.top rfl⟩, by have := s1.val; simpa using this⟩
    · have hpos : (0 : Int) < (m : Int) := by omega
      have hS2 := hide (hS.out.next h0)
      have hlen : L.length < 900000 := by
        have h1 := hS.out.val
        have h2 : 65536 ^ L.length * 1 ≤ 65536 ^ L.length * m := Nat.mul_le_mul_left _ (by omega)
        have h3 := HN.out
        rcases Nat.lt_or_ge L.length 4 with h4 | h4
        · omega
        · have h5 : 65536 ^ 4 ≤ 65536 ^ L.length := Nat.pow_le_pow_right (by omega) h4
          omega
      have hlt : m / 65536 < m := by omega
      have hma : Mod [] w (wr.alloc (.cells #[.int .i64 ((m : Int) % 65536)] 3)) := hm.alloc _
      have hva : Own i64 3 (wr.alloc (.cells #[.int .i64 ((m : Int) % 65536)] 3)) w.heap.size vv L := hv.mod ((Mod.refl [] _).alloc _) (by simp)
      have hca : (wr.alloc (.cells #[.int .i64 ((m : Int) % 65536)] 3)).cell? ⟨wr.heap.size, 0, none⟩ = some (i64 (m % 65536)) := by
        have h := Blk.new wr 3 [.int .i64 ((m : Int) % 65536)]
        have h2 := blk_cell0 h
        rw [h2]
        simp [i64]
      have HLT := hide hlt
      have hmn : m < 2 ^ 62 := by
        have h1 := hS.out.val
        have h2 : 1 * m ≤ 65536 ^ L.length * m := Nat.mul_le_mul_right _ (Nat.pow_pos (by omega))
        have h3 := HN.out
        omega
      have ew : IntKind.i64.wrap ((m : Int) / 65536) = ((m / 65536 : Nat) : Int) := by rw [IntKind.wrap_i64]; omega
      clear hlt h0 hmn
      go_wp2_with (at_builtin; refine wpl_push rfl _ _ _ rfl vv wr.heap.size 1 rfl rfl i64 rfl Try.underlying35 info_int (by omega) (fun _ => rfl) hma hva hca hlen ?_)
      intro v' w' hv' hm'
      go_wp2_with fail
      go_roundw
      case rel => exact ⟨m / 65536, _, v', by first | rfl | (simp [i64]; done), rfl, hm', hv', hS2⟩
      case measure => have := HLT.out; simp [intOf]; omega
end Go.Proofs.Ytgejcabgcemllaa
