/- append onto the call's own rows; impl.copied. -/
import Derived.Test.YtgejcabgcemllaaNatN
import Derived.Laws.OwnMore
import Derived.OwnWalk
namespace Go.Proofs.Ytgejcabgcemllaa
open Go.RowKit

theorem info_u8 : (Try.prog.info? 5).map (fun i => (i.zero, i.size, i.bytes)) = some (some (.int .u8 0), 1, 1) := by kernel_rfl
theorem info_int : (Try.prog.info? 3).map (fun i => (i.zero, i.size, i.bytes)) = some (some (.int .i64 0), 1, 8) := by kernel_rfl

theorem Mod.grown {w w' : World} {row : Option Nat} (h : w.grownBy w' row) {S : List Nat} (hr : ∀ k, row = some k → k < w.heap.size → k ∈ S) : Mod S w w' :=
  ⟨h.os, h.tape, h.output, h.size, fun k hk hS => h.block k hk (fun e => hS (hr k e.symm hk))⟩

/-- append(v, s...), v the call's own. -/
theorem run_app {t e : Nat} {z : Value} {B : Nat} (h1 : z.cells = #[z]) (ht : Try.prog.underlying t = some (.slice e)) (hi : (Try.prog.info? e).map (fun i => (i.zero, i.size, i.bytes)) = some (some z, 1, B)) (hB : B ≤ 16)
    (base : Nat) (v : Value) (n : Nat) (xs : List Value) (w : World) (hown : w.ownsRow base e 1 v n xs) (a : Addr) (c : Nat) (news : List Value) (m : Nat) (hl : news.length = m)
    (hnews : ∀ j u, news[j]? = some u → w.cell? (a.add j) = some u) (hc : ∀ u ∈ news, u.oneCell' = true) (hn : n + m ≤ 1000000) (hb : base ≤ w.heap.size) (ty : Nat) :
    ∃ v' w', (Builtin.append_ #[t, t] ty #[v, .slice (some a) m c]).run Try.prog w = .ok v' w' ∧ w'.ownsRow base e 1 v' (n + m) (xs ++ news) ∧ w.grownBy w' v.ownBlock := by
  obtain ⟨i, g1, g2, g3, g4⟩ := info_parts hi
  obtain ⟨v', w', r1, r2, r3, _⟩ := run_append_own w base t ty e i z 1 B ht g1 g2 g3 g4 (by rw [h1]; rfl) (by omega) v n xs hown a m c news (by omega) hnews hc (by simp only [maxLen]; omega)
    (Nat.le_trans (Nat.mul_le_mul hn hB) (by omega)) hb
  exact ⟨v', w', r1, r2, r3⟩
theorem run_app_none {t e : Nat} {z : Value} {B : Nat} (ht : Try.prog.underlying t = some (.slice e)) (hi : (Try.prog.info? e).map (fun i => (i.zero, i.size, i.bytes)) = some (some z, 1, B))
    (base : Nat) (v : Value) (n : Nat) (xs : List Value) (w : World) (hown : w.ownsRow base e 1 v n xs) (ty : Nat) :
    (Builtin.append_ #[t, t] ty #[v, .slice none 0 0]).run Try.prog w = .ok v w := by
  obtain ⟨i, g1, g2, g3, g4⟩ := info_parts hi
  exact run_append_owned_none w base t ty e i 1 ht g1 v n xs hown

/-- append at the walk: whatever the run is known to be. -/
theorem wpl_run2 {ops : Array Oper} {rest : List Oper} {o : Oper} {a : Act} {Q : Exit → Act → World → Prop} {w w' : World} {v' : Value} (hgd : o.guard = none) (s x : Operand) (t : TypeId)
    (ho : o.op = .call { callee := .builtin .append, args := #[s, x], argTypes := #[t, t] }) (v xv : Value) (hs : a.eval s = v) (hx : a.eval x = xv)
    (hr : (Builtin.append_ #[t, t] o.type #[v, xv]).run Try.prog w = .ok v' w') (h : wpList Try.prog ops Q rest (a.put o.dst v') w') : wpList Try.prog ops Q (o :: rest) a w := by
  refine wpList_plain hgd fun K hK => ?_
  unfold Oper.wp execOp
  simp only [ho, resolve, invoke, builtin, Sem.run_bind, Sem.run_pure, Result.andThen_ok, List.map_toArray, List.map_cons, List.map_nil, hs, hx, hr]
  exact hK _ _ h

theorem SliceB.ofOwns {w : World} {base n : Nat} {v : Value} {B : List Nat} (h : w.ownsRow base 5 1 v n (B.map u8)) :
    SliceB w v B ∧ ∀ b o n c, v = sl b o n c → base ≤ b ∧ b < w.heap.size := by
  obtain ⟨h1, h2⟩ := h
  rw [List.length_map, Nat.mul_one] at h1
  subst h1
  rcases h2 with ⟨rfl, h0⟩ | ⟨g, cap, cur, rfl, hb, hg, hc, _, hs, ht⟩
  · exact ⟨.inl ⟨rfl, List.eq_nil_of_length_eq_zero h0⟩, by intro b o n c e; cases e⟩
  · refine ⟨.inr (.inr ⟨g, 0, cap, rfl, hc, ?_⟩), ?_⟩
    · intro i hi
      rw [Nat.zero_add, cell_of_row w g i cur 5 (0, 0) hg]
      rw [Nat.mul_one] at ht
      have : (cur.toList.take B.length)[i]? = some (u8 (nth B i)) := by rw [ht, map_get hi]
      rw [List.getElem?_take, if_pos hi] at this
      simpa using this
    · intro b o n c e
      simp only [Value.slice.injEq, Option.some.injEq, Addr.mk.injEq] at e
      obtain ⟨⟨rfl, _⟩, _⟩ := e
      refine ⟨hb, ?_⟩
      rcases Nat.lt_or_ge g w.heap.size with h' | h'
      · exact h'
      · rw [Array.getElem?_eq_none h'] at hg; cases hg

set_option maxRecDepth 100000 in
theorem c_copied (v : Value) (B : List Nat) (w : World) (hb : SliceB w v B) (hbig : B.length ≤ 100000) :
    Calls Try.prog 28 #[v] w fun e w' => ∃ v', e = .returned v' ∧ Mod [] w w' ∧ SliceB w' v' B ∧ ∀ b o n c, v' = sl b o n c → w.heap.size ≤ b ∧ b < w'.heap.size := by
  rcases hb with ⟨rfl, rfl⟩ | ⟨x, c, rfl, rfl⟩ | ⟨b, o, c, rfl, hc, hb⟩
  · have hr := fun ty => run_app_none Try.underlying22 info_u8 w.heap.size (.slice none 0 0) 0 [] w (World.ownsRow_nil _ _ _ _) ty
    go_enter Try.func28, Try.ntmps28
    go_wp2_with fail
    go_ret
    exact ⟨_, rfl, Mod.refl _ _, .inl ⟨rfl, rfl⟩, by intro b o n c e; cases e⟩
  · obtain ⟨v', w', hr, hown, hgr⟩ := run_app (z := .int .u8 0) rfl Try.underlying22 info_u8 (by omega) w.heap.size (.slice none 0 0) 0 [] w (World.ownsRow_nil _ _ _ _) x c [] 0 rfl (by intro j u hj; simp at hj) (by simp) (by omega) (Nat.le_refl _) 22
    rw [List.nil_append] at hown
    obtain ⟨s1, s2⟩ := SliceB.ofOwns (B := []) hown
    have hm : Mod [] w w' := Mod.grown hgr (by intro k hk; cases hk)
    go_enter Try.func28, Try.ntmps28
    go_wp2_with (at_builtin; refine wpl_run2 rfl _ _ _ rfl _ _ rfl rfl hr ?_)
    go_ret
    exact ⟨v', rfl, hm, s1, s2⟩
  · obtain ⟨v', w', hr, hown, hgr⟩ := run_app (z := .int .u8 0) rfl Try.underlying22 info_u8 (by omega) w.heap.size (.slice none 0 0) 0 [] w (World.ownsRow_nil _ _ _ _) ⟨b, o, none⟩ c (B.map u8) B.length (by simp)
      (by
        intro j u hj
        have hjl : j < B.length := by simpa using (List.getElem?_eq_some_iff.1 hj).1
        rw [map_get hjl] at hj
        rw [add_addr, hb j hjl]
        exact hj) (oneCell_map u8 (fun _ => rfl) B) (by omega) (Nat.le_refl _) 22
    rw [List.nil_append] at hown
    obtain ⟨s1, s2⟩ := SliceB.ofOwns hown
    have hm : Mod [] w w' := Mod.grown hgr (by intro k hk; cases hk)
    go_enter Try.func28, Try.ntmps28
    go_wp2_with (at_builtin; refine wpl_run2 rfl _ _ _ rfl _ _ rfl rfl hr ?_)
    go_ret
    exact ⟨v', rfl, hm, s1, s2⟩
end Go.Proofs.Ytgejcabgcemllaa
