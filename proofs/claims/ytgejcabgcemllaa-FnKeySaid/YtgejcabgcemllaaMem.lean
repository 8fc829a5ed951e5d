/- Plain lemmas on worlds, blocks and rows of numbers, for the walks of this claim. They hold without any condition of their own. -/
import Derived.WalkKit
import Derived.WalkLawsBesides
import Derived.WalkSpells
import Derived.Deep.QuietTactic
import Derived.BigQuiet
import Derived.Deep.RegionWith
import Derived.Laws.CopyOwn
import Derived.Lib.SliceRun
namespace Go.Proofs.Ytgejcabgcemllaa
open Go.RowKit

theorem hide {p : Prop} (h : p) : Hid p := h

/-- Old blocks outside S are as they were. -/
structure Mod (S : List Nat) (w w' : World) : Prop where
  os : w'.os = w.os
  tape : w'.tape = w.tape
  output : w'.output = w.output
  size : w.heap.size ≤ w'.heap.size
  block : ∀ k, k < w.heap.size → k ∉ S → w'.heap[k]? = w.heap[k]?

theorem Mod.refl (S : List Nat) (w : World) : Mod S w w := ⟨rfl, rfl, rfl, Nat.le_refl _, fun _ _ _ => rfl⟩

theorem Mod.trans {S T U : List Nat} {a b c : World} (h : Mod S a b) (k : Mod T b c) (hS : ∀ x, x ∈ S → x < a.heap.size → x ∈ U)
    (hT : ∀ x, x ∈ T → x < a.heap.size → x ∈ U) : Mod U a c :=
  ⟨k.os.trans h.os, k.tape.trans h.tape, k.output.trans h.output, Nat.le_trans h.size k.size, fun i hi hs =>
    (k.block i (Nat.lt_of_lt_of_le hi h.size) (fun ht => hs (hT i ht hi))).trans (h.block i hi (fun ht => hs (hS i ht hi)))⟩

theorem Mod.mono {S T : List Nat} {a b : World} (h : Mod S a b) (hT : ∀ x, x ∈ S → x < a.heap.size → x ∈ T) : Mod T a b :=
  ⟨h.os, h.tape, h.output, h.size, fun i hi hs => h.block i hi (fun ht => hs (hT i ht hi))⟩

theorem Mod.drew {S : List Nat} {a b : World} (h : Mod S a b) : Mod S a b.drew := ⟨h.os, h.tape, h.output, h.size, h.block⟩
theorem Mod.drewN {S : List Nat} {a b : World} (h : Mod S a b) (n : Nat) : Mod S a (b.drewN n) := ⟨h.os, h.tape, h.output, h.size, h.block⟩

theorem Mod.ofDrew {S : List Nat} {a b : World} (h : Mod S a.drew b) : Mod S a b := ⟨h.os, h.tape, h.output, h.size, h.block⟩
theorem Mod.ofDrewN {S : List Nat} {a b : World} {n : Nat} (h : Mod S (a.drewN n) b) : Mod S a b := ⟨h.os, h.tape, h.output, h.size, h.block⟩

theorem Mod.setCell {S : List Nat} {a b : World} (h : Mod S a b) (p : Addr) (u : Value) (hp : p.block < a.heap.size → p.block ∈ S) : Mod S a (b.setCell p u) :=
  ⟨h.os, h.tape, h.output, by simpa [World.setCell] using h.size, fun k hk hs =>
    (Below.heap_setCell _ _ _ _ (fun e => hs (by rw [e]; exact hp (by rw [← e]; exact hk)))).trans (h.block k hk hs)⟩

theorem Mod.setRow {S : List Nat} {a b : World} (h : Mod S a b) (g : Nat) (cs : Array Value) (hp : g < a.heap.size → g ∈ S) : Mod S a (b.setRow g cs) :=
  ⟨h.os, h.tape, h.output, by simpa using h.size, fun k hk hs =>
    (setRow_other _ _ _ _ (fun e => hs (by rw [e]; exact hp (by rw [← e]; exact hk)))).trans (h.block k hk hs)⟩

theorem Mod.alloc {S : List Nat} {a b : World} (h : Mod S a b) (o : Obj) : Mod S a (b.alloc o) :=
  ⟨h.os, h.tape, h.output, by have := h.size; simp; omega, fun k hk hs => (Below.heap_alloc _ _ _ (Nat.lt_of_lt_of_le hk h.size)).trans (h.block k hk hs)⟩

theorem Mod.below {a b : World} (h : Mod [] a b) : Below a.heap.size a b := ⟨h.os, h.tape, h.output, h.size, fun k hk => h.block k hk (by simp)⟩
theorem Mod.ofBelow {a b : World} (h : Below a.heap.size a b) : Mod [] a b := ⟨h.os, h.tape, h.output, h.size, fun k hk _ => h.block k hk⟩

/-- Block b is a row of these cells, of this type, none of it frozen. -/
def Blk (w : World) (b T : Nat) (vs : List Value) : Prop := w.heap[b]? = some (.cells vs.toArray T (0, 0))

theorem Blk.cell {w : World} {b T : Nat} {vs : List Value} (h : Blk w b T vs) (i : Nat) : w.cell? ⟨b, i, none⟩ = vs[i]? := by
  unfold World.cell?
  rw [show w.heap[(⟨b, i, none⟩ : Addr).block]? = _ from h]
  simp
theorem Blk.frozen {w : World} {b T : Nat} {vs : List Value} (h : Blk w b T vs) (i : Nat) : w.frozen? ⟨b, i, none⟩ = false := by
  unfold World.frozen?
  rw [show w.heap[(⟨b, i, none⟩ : Addr).block]? = _ from h]
  simp
theorem Blk.lt {w : World} {b T : Nat} {vs : List Value} (h : Blk w b T vs) : b < w.heap.size := by
  unfold Blk at h
  rcases Nat.lt_or_ge b w.heap.size with h' | h'
  · exact h'
  · simp [Array.getElem?_eq_none h'] at h
theorem Blk.setCell {w : World} {b T : Nat} {vs : List Value} (h : Blk w b T vs) (i : Nat) (v : Value) : Blk (w.setCell ⟨b, i, none⟩ v) b T (vs.set i v) := by
  unfold Blk at *
  simp [World.setCell, Array.getElem?_modify, h]
theorem Blk.setCell_other {w : World} {b T : Nat} {vs : List Value} (h : Blk w b T vs) (p : Addr) (v : Value) (hp : b ≠ p.block) : Blk (w.setCell p v) b T vs := by
  unfold Blk at *
  rw [Below.heap_setCell _ _ _ _ hp, h]
theorem Blk.setRow {w : World} {b T : Nat} {vs : List Value} (h : Blk w b T vs) (us : List Value) : Blk (w.setRow b us.toArray) b T us :=
  setRow_heap w b _ _ _ _ h
theorem Blk.setRow_other {w : World} {b T : Nat} {vs : List Value} (h : Blk w b T vs) (g : Nat) (cs : Array Value) (hp : b ≠ g) : Blk (w.setRow g cs) b T vs := by
  unfold Blk at *
  rw [Go.setRow_other _ _ _ _ hp, h]
theorem Blk.drew {w : World} {b T : Nat} {vs : List Value} (h : Blk w b T vs) : Blk w.drew b T vs := h
theorem Blk.drewN {w : World} {b T : Nat} {vs : List Value} (h : Blk w b T vs) (n : Nat) : Blk (w.drewN n) b T vs := h
theorem Blk.alloc {w : World} {b T : Nat} {vs : List Value} (h : Blk w b T vs) (o : Obj) : Blk (w.alloc o) b T vs := by
  have := h.lt
  unfold Blk at *
  rw [Below.heap_alloc _ _ _ this, h]
theorem Blk.new (w : World) (T : Nat) (vs : List Value) : Blk (w.alloc (.cells vs.toArray T)) w.heap.size T vs := by
  unfold Blk
  exact heap_alloc_new w _
theorem Blk.mod {w w' : World} {S : List Nat} {b T : Nat} {vs : List Value} (h : Blk w b T vs) (m : Mod S w w') (hb : b ∉ S) : Blk w' b T vs := by
  have := h.lt
  unfold Blk at *
  rw [m.block b this hb, h]
theorem Blk.ext {w : World} {b T T' : Nat} {vs us : List Value} (h : Blk w b T vs) (k : Blk w b T' us) : T = T' ∧ vs = us := by
  unfold Blk at *
  rw [h] at k
  simp at k
  exact ⟨k.2, k.1⟩
theorem Blk.ne {w : World} {b c T U : Nat} {vs us : List Value} (h : Blk w b T vs) (k : Blk w c U us) (hTU : T ≠ U) : b ≠ c := by
  intro e
  subst e
  exact hTU (h.ext k).1
theorem Blk.ne_size {w : World} {b T : Nat} {vs : List Value} (h : Blk w b T vs) : b ≠ w.heap.size := Nat.ne_of_lt h.lt

/-! Numbers in rows. -/
abbrev u64 (n : Nat) : Value := .int .u64 (n : Int)
abbrev u8 (n : Nat) : Value := .int .u8 (n : Int)
abbrev i64 (n : Nat) : Value := .int .i64 (n : Int)
abbrev ptr (b : Nat) : Value := .pointer (some ⟨b, 0, none⟩)
abbrev sl (b o n c : Nat) : Value := .slice (some ⟨b, o, none⟩) n c

/-- The number at a place; 0 behind the end. -/
def nth (L : List Nat) (i : Nat) : Nat := L.getD i 0

theorem nth_eq (L : List Nat) (i : Nat) (h : i < L.length) : nth L i = L[i] := by simp [nth, h]
theorem nth_append_left {L R : List Nat} {i : Nat} (h : i < L.length) : nth (L ++ R) i = nth L i := by simp [nth, h, List.getElem?_append_left h]
theorem nth_append_right {L R : List Nat} {i : Nat} (h : L.length ≤ i) : nth (L ++ R) i = nth R (i - L.length) := by
  simp [nth, List.getElem?_append_right h]
theorem nth_set_same {L : List Nat} {i v : Nat} (h : i < L.length) : nth (L.set i v) i = v := by simp [nth, h]
theorem nth_set_ne {L : List Nat} {i j v : Nat} (h : i ≠ j) : nth (L.set i v) j = nth L j := by simp [nth, h]
theorem nth_replicate (n v i : Nat) (h : i < n) : nth (List.replicate n v) i = v := by simp [nth, h]
theorem nth_replicate0 (n i : Nat) : nth (List.replicate n 0) i = 0 := by
  by_cases h : i < n
  · exact nth_replicate n 0 i h
  · simp [nth, h]
theorem nth_ge {L : List Nat} {i : Nat} (h : L.length ≤ i) : nth L i = 0 := by simp [nth, h]

theorem map_get {k : Nat → Value} {L : List Nat} {i : Nat} (h : i < L.length) : (L.map k)[i]? = some (k (nth L i)) := by
  simp [nth, h]

theorem Blk.at {w : World} {b T : Nat} {k : Nat → Value} {L : List Nat} (h : Blk w b T (L.map k)) (i : Nat) (hi : i < L.length) :
    w.cell? ⟨b, i, none⟩ = some (k (nth L i)) := by rw [h.cell, map_get hi]

theorem Blk.set {w : World} {b T : Nat} {k : Nat → Value} {L : List Nat} (h : Blk w b T (L.map k)) (i v : Nat) :
    Blk (w.setCell ⟨b, i, none⟩ (k v)) b T ((L.set i v).map k) := by
  have := h.setCell i (k v)
  rwa [← List.map_set] at this

/-! Laws on make, clear and copy. -/
theorem madeCells_one (z : Value) (n : Nat) : madeCells #[z] (n * 1) = (List.replicate n z).toArray := by
  apply Array.ext
  · simp [madeCells]
  · intro i h1 h2
    simp [madeCells, Nat.mod_one]

/-- make([]T, n) of elements of one cell. -/
theorem run_make_row {P : Program} {t e : Nat} {z : Value} {B : Nat} (hz : z.cells = #[z]) (ht : P.underlying t = some (.slice e))
    (hi : (P.info? e).map (fun i => (i.zero, i.size, i.bytes)) = some (some z, 1, B)) (hB : B ≤ 16) (n c : Nat) (hnc : n ≤ c) (hc : c ≤ 17000000) (w : World) :
    (Instr.makeSlice t (.int .i64 n) (.int .i64 c)).run P w = .ok (sl w.heap.size 0 n c) (w.alloc (.cells (List.replicate c z).toArray e)) := by
  obtain ⟨i, h1, h2, h3, h4⟩ := info_parts hi
  have hb : (B : Int) * (c : Int) ≤ 281474976710656 := by
    have : B * c ≤ 16 * 17000000 := Nat.mul_le_mul hB hc
    have : ((B * c : Nat) : Int) ≤ 281474976710656 := by omega
    simpa using this
  have := run_make (P := P) w t e i z ht h1 h2 .i64 .i64 (n : Int) (c : Int) (by omega) (by omega) (by rw [h4]; exact hb) (by omega)
  rw [this, h3, hz, Int.toNat_natCast, Int.toNat_natCast, madeCells_one]

/-- A piece of a list exchanged for another of the same length. -/
def splice' (vs us : List Value) (o : Nat) : List Value := vs.take o ++ us ++ vs.drop (o + us.length)

/-- clear(s[o:o+n]) in a row. -/
theorem run_clear_row {P : Program} {t e ty T : Nat} {z : Value} (hz : z.cells = #[z]) (h1 : z.oneCell' = true) (ht : P.underlying t = some (.slice e))
    (hv : ∀ w, (zeroValue e).run P w = .ok z w) {w : World} {b : Nat} {vs : List Value} (hb : Blk w b T vs) (o n c : Nat) (hn : o + n ≤ vs.length) :
    (Builtin.clear_ #[t] ty #[sl b o n c]).run P w = .ok (.tuple #[]) (w.setRow b (splice' vs (List.replicate n z) o).toArray) := by
  by_cases hn0 : n = 0
  · subst hn0
    have e : (splice' vs (List.replicate 0 z) o).toArray = vs.toArray := by simp [splice']
    rw [e, setRow_self w b vs.toArray T (0, 0) hb]
    simp [Builtin.clear_, run_underlying ht]
  · have hzc : (Builtin.zeroCells z.cells n).toList = List.replicate n z := by
      rw [hz]
      simp [Builtin.zeroCells]
      apply List.ext_getElem
      · simp
      · intro i h1 h2
        simp [Nat.mod_one]
    have hst := run_storeCells_at P b o T (List.replicate n z) 0 vs.toArray w hb (by simpa using hn) (by intro v hv'; rw [List.eq_of_mem_replicate hv']; exact h1)
    simp only [Nat.add_zero] at hst
    obtain ⟨m, rfl⟩ : ∃ m, n = m + 1 := ⟨n - 1, by omega⟩
    simp only [splice']
    simp [Builtin.clear_, run_underlying ht, hv, hzc, hst]

/-- copy(d[o:o+dn], s) out of cells that are known. -/
theorem run_copy_cells {P : Program} {t t' ty e T : Nat} (ht : P.underlying t = some (.slice e)) (hs : (P.info? e).map (·.size) = some 1)
    {w : World} {b : Nat} {vs us : List Value} (hb : Blk w b T vs) (o dn dc : Nat) (a : Addr) (sn sc : Nat) (hn : us.length = Nat.min sn dn)
    (hsrc : ∀ j v, us[j]? = some v → w.cell? (a.add j) = some v) (hfit : o + us.length ≤ vs.length) (h1 : ∀ v ∈ us, v.oneCell' = true) :
    (Builtin.copy_ #[t, t'] ty #[sl b o dn dc, .slice (some a) sn sc]).run P w = .ok (goInt us.length) (w.setRow b (splice' vs us o).toArray) := by
  have h := run_copy_row (P := P) w t t' ty e b o dn dc a sn sc vs.toArray T us ht hs hb hn hsrc (by simpa using hfit) h1
  simpa [splice'] using h

theorem add_addr (b o j : Nat) : (⟨b, o, none⟩ : Addr).add j = ⟨b, o + j, none⟩ := by
  unfold Addr.add
  split <;> simp_all

/-- A row that is written from place o on by us. -/
theorem Blk.splice {w : World} {b T : Nat} {vs : List Value} (h : Blk w b T vs) (us : List Value) (o : Nat) :
    Blk (w.setRow b (splice' vs us o).toArray) b T (splice' vs us o) := h.setRow _

theorem splice_map (k : Nat → Value) (V U : List Nat) (o : Nat) : splice' (V.map k) (U.map k) o = (V.take o ++ U ++ V.drop (o + U.length)).map k := by
  simp [splice', List.map_take, List.map_drop]

theorem oneCell_map (k : Nat → Value) (hk : ∀ n, (k n).oneCell' = true) (L : List Nat) : ∀ v ∈ L.map k, v.oneCell' = true := by
  intro v hv
  obtain ⟨n, _, rfl⟩ := List.mem_map.1 hv
  exact hk n

end Go.Proofs.Ytgejcabgcemllaa
