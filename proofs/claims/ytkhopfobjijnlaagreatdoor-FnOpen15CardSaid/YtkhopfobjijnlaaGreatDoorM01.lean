/- Plain lemmas on worlds, blocks and rows of numbers, for the walks of this claim. They hold without any condition of their own. The words of 64 bits with carry and borrow, as plain functions on natural numbers, and what they come to. No condition. Contracts of the small functions of math/bits and bigmod: what each returns for every input that its callers hand on. -/
import Derived.WalkKit
import Derived.WalkLawsBesides
import Derived.WalkSpells
import Derived.Deep.QuietTactic
import Derived.BigQuiet
import Derived.Deep.RegionWith
import Derived.Laws.CopyOwn
import Derived.Lib.SliceRun
import Derived.Test.YtkhopfobjijnlaaGreatDoorProg
import Derived.Lib.Mul64
import Derived.Laws.Bits64b
set_option linter.all false
namespace Go.Proofs.YtkhopfobjijnlaaGreatDoor
open Go.RowKit

theorem hide {p : Prop} (h : p) : Hid p := h

/-- Old blocks outside S are as they were. -/
structure Mod (S : List Nat) (w w' : World) : Prop where
  os : w'.os = w.os
  tape : w'.tape = w.tape
  output : w'.output = w.output
  size : w.heap.size ≤ w'.heap.size
  block : ∀ k, k < w.heap.size → k ∉ S → w'.heap[k]? = w.heap[k]?

theorem Mod.refl (S : List Nat) (w : World) : Mod S w w := ⟨rfl, rfl, rfl, Nat.le_refl _, fun _ _ _ => rfl⟩

theorem Mod.trans {S T U : List Nat} {a b c : World} (h : Mod S a b) (k : Mod T b c) (hS : ∀ x, x ∈ S → x < a.heap.size → x ∈ U)
    (hT : ∀ x, x ∈ T → x < a.heap.size → x ∈ U) : Mod U a c :=
  ⟨k.os.trans h.os, k.tape.trans h.tape, k.output.trans h.output, Nat.le_trans h.size k.size, fun i hi hs =>
    (k.block i (Nat.lt_of_lt_of_le hi h.size) (fun ht => hs (hT i ht hi))).trans (h.block i hi (fun ht => hs (hS i ht hi)))⟩

theorem Mod.mono {S T : List Nat} {a b : World} (h : Mod S a b) (hT : ∀ x, x ∈ S → x < a.heap.size → x ∈ T) : Mod T a b :=
  ⟨h.os, h.tape, h.output, h.size, fun i hi hs => h.block i hi (fun ht => hs (hT i ht hi))⟩

theorem Mod.drew {S : List Nat} {a b : World} (h : Mod S a b) : Mod S a b.drew := ⟨h.os, h.tape, h.output, h.size, h.block⟩
theorem Mod.drewN {S : List Nat} {a b : World} (h : Mod S a b) (n : Nat) : Mod S a (b.drewN n) := ⟨h.os, h.tape, h.output, h.size, h.block⟩

theorem Mod.ofDrew {S : List Nat} {a b : World} (h : Mod S a.drew b) : Mod S a b := ⟨h.os, h.tape, h.output, h.size, h.block⟩
theorem Mod.ofDrewN {S : List Nat} {a b : World} {n : Nat} (h : Mod S (a.drewN n) b) : Mod S a b := ⟨h.os, h.tape, h.output, h.size, h.block⟩

theorem Mod.setCell {S : List Nat} {a b : World} (h : Mod S a b) (p : Addr) (u : Value) (hp : p.block < a.heap.size → p.block ∈ S) : Mod S a (b.setCell p u) :=
  ⟨h.os, h.tape, h.output, by simpa [World.setCell] using h.size, fun k hk hs =>
    (Below.heap_setCell _ _ _ _ (fun e => hs (by rw [e]; exact hp (by rw [← e]; exact hk)))).trans (h.block k hk hs)⟩

theorem Mod.setRow {S : List Nat} {a b : World} (h : Mod S a b) (g : Nat) (cs : Array Value) (hp : g < a.heap.size → g ∈ S) : Mod S a (b.setRow g cs) :=
  ⟨h.os, h.tape, h.output, by simpa using h.size, fun k hk hs =>
    (setRow_other _ _ _ _ (fun e => hs (by rw [e]; exact hp (by rw [← e]; exact hk)))).trans (h.block k hk hs)⟩

theorem Mod.alloc {S : List Nat} {a b : World} (h : Mod S a b) (o : Obj) : Mod S a (b.alloc o) :=
  ⟨h.os, h.tape, h.output, by have := h.size; simp; omega, fun k hk hs => (Below.heap_alloc _ _ _ (Nat.lt_of_lt_of_le hk h.size)).trans (h.block k hk hs)⟩

theorem Mod.below {a b : World} (h : Mod [] a b) : Below a.heap.size a b := ⟨h.os, h.tape, h.output, h.size, fun k hk => h.block k hk (by simp)⟩
theorem Mod.ofBelow {a b : World} (h : Below a.heap.size a b) : Mod [] a b := ⟨h.os, h.tape, h.output, h.size, fun k hk _ => h.block k hk⟩

/-- Block b is a row of these cells, of this type, none of it frozen. -/
def Blk (w : World) (b T : Nat) (vs : List Value) : Prop := w.heap[b]? = some (.cells vs.toArray T (0, 0))

theorem Blk.cell {w : World} {b T : Nat} {vs : List Value} (h : Blk w b T vs) (i : Nat) : w.cell? ⟨b, i, none⟩ = vs[i]? := by
  unfold World.cell?
  rw [show w.heap[(⟨b, i, none⟩ : Addr).block]? = _ from h]
  simp
theorem Blk.frozen {w : World} {b T : Nat} {vs : List Value} (h : Blk w b T vs) (i : Nat) : w.frozen? ⟨b, i, none⟩ = false := by
  unfold World.frozen?
  rw [show w.heap[(⟨b, i, none⟩ : Addr).block]? = _ from h]
  simp
theorem Blk.lt {w : World} {b T : Nat} {vs : List Value} (h : Blk w b T vs) : b < w.heap.size := by
  unfold Blk at h
  rcases Nat.lt_or_ge b w.heap.size with h' | h'
  · exact h'
  · simp [Array.getElem?_eq_none h'] at h
theorem Blk.setCell {w : World} {b T : Nat} {vs : List Value} (h : Blk w b T vs) (i : Nat) (v : Value) : Blk (w.setCell ⟨b, i, none⟩ v) b T (vs.set i v) := by
  unfold Blk at *
  simp [World.setCell, Array.getElem?_modify, h]
theorem Blk.setCell_other {w : World} {b T : Nat} {vs : List Value} (h : Blk w b T vs) (p : Addr) (v : Value) (hp : b ≠ p.block) : Blk (w.setCell p v) b T vs := by
  unfold Blk at *
  rw [Below.heap_setCell _ _ _ _ hp, h]
theorem Blk.setRow {w : World} {b T : Nat} {vs : List Value} (h : Blk w b T vs) (us : List Value) : Blk (w.setRow b us.toArray) b T us :=
  setRow_heap w b _ _ _ _ h
theorem Blk.setRow_other {w : World} {b T : Nat} {vs : List Value} (h : Blk w b T vs) (g : Nat) (cs : Array Value) (hp : b ≠ g) : Blk (w.setRow g cs) b T vs := by
  unfold Blk at *
  rw [Go.setRow_other _ _ _ _ hp, h]
theorem Blk.drew {w : World} {b T : Nat} {vs : List Value} (h : Blk w b T vs) : Blk w.drew b T vs := h
theorem Blk.drewN {w : World} {b T : Nat} {vs : List Value} (h : Blk w b T vs) (n : Nat) : Blk (w.drewN n) b T vs := h
theorem Blk.alloc {w : World} {b T : Nat} {vs : List Value} (h : Blk w b T vs) (o : Obj) : Blk (w.alloc o) b T vs := by
  have := h.lt
  unfold Blk at *
  rw [Below.heap_alloc _ _ _ this, h]
theorem Blk.new (w : World) (T : Nat) (vs : List Value) : Blk (w.alloc (.cells vs.toArray T)) w.heap.size T vs := by
  unfold Blk
  exact heap_alloc_new w _
theorem Blk.mod {w w' : World} {S : List Nat} {b T : Nat} {vs : List Value} (h : Blk w b T vs) (m : Mod S w w') (hb : b ∉ S) : Blk w' b T vs := by
  have := h.lt
  unfold Blk at *
  rw [m.block b this hb, h]
theorem Blk.ext {w : World} {b T T' : Nat} {vs us : List Value} (h : Blk w b T vs) (k : Blk w b T' us) : T = T' ∧ vs = us := by
  unfold Blk at *
  rw [h] at k
  simp at k
  exact ⟨k.2, k.1⟩
theorem Blk.ne {w : World} {b c T U : Nat} {vs us : List Value} (h : Blk w b T vs) (k : Blk w c U us) (hTU : T ≠ U) : b ≠ c := by
  intro e
  subst e
  exact hTU (h.ext k).1
theorem Blk.ne_size {w : World} {b T : Nat} {vs : List Value} (h : Blk w b T vs) : b ≠ w.heap.size := Nat.ne_of_lt h.lt

/-! Numbers in rows. -/
abbrev u64 (n : Nat) : Value := .int .u64 (n : Int)
abbrev u8 (n : Nat) : Value := .int .u8 (n : Int)
abbrev i64 (n : Nat) : Value := .int .i64 (n : Int)
abbrev ptr (b : Nat) : Value := .pointer (some ⟨b, 0, none⟩)
abbrev sl (b o n c : Nat) : Value := .slice (some ⟨b, o, none⟩) n c

/-- The number at a place; 0 behind the end. -/
def nth (L : List Nat) (i : Nat) : Nat := L.getD i 0

theorem nth_eq (L : List Nat) (i : Nat) (h : i < L.length) : nth L i = L[i] := by simp [nth, h]
theorem nth_append_left {L R : List Nat} {i : Nat} (h : i < L.length) : nth (L ++ R) i = nth L i := by simp [nth, h, List.getElem?_append_left h]
theorem nth_append_right {L R : List Nat} {i : Nat} (h : L.length ≤ i) : nth (L ++ R) i = nth R (i - L.length) := by
  simp [nth, List.getElem?_append_right h]
theorem nth_set_same {L : List Nat} {i v : Nat} (h : i < L.length) : nth (L.set i v) i = v := by simp [nth, h]
theorem nth_set_ne {L : List Nat} {i j v : Nat} (h : i ≠ j) : nth (L.set i v) j = nth L j := by simp [nth, h]
theorem nth_replicate (n v i : Nat) (h : i < n) : nth (List.replicate n v) i = v := by simp [nth, h]
theorem nth_replicate0 (n i : Nat) : nth (List.replicate n 0) i = 0 := by
  by_cases h : i < n
  · exact nth_replicate n 0 i h
  · simp [nth, h]
theorem nth_ge {L : List Nat} {i : Nat} (h : L.length ≤ i) : nth L i = 0 := by simp [nth, h]

theorem map_get {k : Nat → Value} {L : List Nat} {i : Nat} (h : i < L.length) : (L.map k)[i]? = some (k (nth L i)) := by
  simp [nth, h]

theorem Blk.at {w : World} {b T : Nat} {k : Nat → Value} {L : List Nat} (h : Blk w b T (L.map k)) (i : Nat) (hi : i < L.length) :
    w.cell? ⟨b, i, none⟩ = some (k (nth L i)) := by rw [h.cell, map_get hi]

theorem Blk.set {w : World} {b T : Nat} {k : Nat → Value} {L : List Nat} (h : Blk w b T (L.map k)) (i v : Nat) :
    Blk (w.setCell ⟨b, i, none⟩ (k v)) b T ((L.set i v).map k) := by
  have := h.setCell i (k v)
  rwa [← List.map_set] at this

/-! Laws on make, clear and copy. -/
theorem madeCells_one (z : Value) (n : Nat) : madeCells #[z] (n * 1) = (List.replicate n z).toArray := by
  apply Array.ext
  · simp [madeCells]
  · intro i h1 h2
    simp [madeCells, Nat.mod_one]

/-- make([]T, n) of elements of one cell. -/
theorem run_make_row {P : Program} {t e : Nat} {z : Value} {B : Nat} (hz : z.cells = #[z]) (ht : P.underlying t = some (.slice e))
    (hi : (P.info? e).map (fun i => (i.zero, i.size, i.bytes)) = some (some z, 1, B)) (hB : B ≤ 16) (n c : Nat) (hnc : n ≤ c) (hc : c ≤ 17000000) (w : World) :
    (Instr.makeSlice t (.int .i64 n) (.int .i64 c)).run P w = .ok (sl w.heap.size 0 n c) (w.alloc (.cells (List.replicate c z).toArray e)) := by
  obtain ⟨i, h1, h2, h3, h4⟩ := info_parts hi
  have hb : (B : Int) * (c : Int) ≤ 281474976710656 := by
    have : B * c ≤ 16 * 17000000 := Nat.mul_le_mul hB hc
    have : ((B * c : Nat) : Int) ≤ 281474976710656 := by omega
    simpa using this
  have := run_make (P := P) w t e i z ht h1 h2 .i64 .i64 (n : Int) (c : Int) (by omega) (by omega) (by rw [h4]; exact hb) (by omega)
  rw [this, h3, hz, Int.toNat_natCast, Int.toNat_natCast, madeCells_one]

/-- A piece of a list exchanged for another of the same length. -/
def splice' (vs us : List Value) (o : Nat) : List Value := vs.take o ++ us ++ vs.drop (o + us.length)

/-- clear(s[o:o+n]) in a row. -/
theorem run_clear_row {P : Program} {t e ty T : Nat} {z : Value} (hz : z.cells = #[z]) (h1 : z.oneCell' = true) (ht : P.underlying t = some (.slice e))
    (hv : ∀ w, (zeroValue e).run P w = .ok z w) {w : World} {b : Nat} {vs : List Value} (hb : Blk w b T vs) (o n c : Nat) (hn : o + n ≤ vs.length) :
    (Builtin.clear_ #[t] ty #[sl b o n c]).run P w = .ok (.tuple #[]) (w.setRow b (splice' vs (List.replicate n z) o).toArray) := by
  by_cases hn0 : n = 0
  · subst hn0
    have e : (splice' vs (List.replicate 0 z) o).toArray = vs.toArray := by simp [splice']
    rw [e, setRow_self w b vs.toArray T (0, 0) hb]
    simp [Builtin.clear_, run_underlying ht]
  · have hzc : (Builtin.zeroCells z.cells n).toList = List.replicate n z := by
      rw [hz]
      simp [Builtin.zeroCells]
      apply List.ext_getElem
      · simp
      · intro i h1 h2
        simp [Nat.mod_one]
    have hst := run_storeCells_at P b o T (List.replicate n z) 0 vs.toArray w hb (by simpa using hn) (by intro v hv'; rw [List.eq_of_mem_replicate hv']; exact h1)
    simp only [Nat.add_zero] at hst
    obtain ⟨m, rfl⟩ : ∃ m, n = m + 1 := ⟨n - 1, by omega⟩
    simp only [splice']
    simp [Builtin.clear_, run_underlying ht, hv, hzc, hst]

/-- copy(d[o:o+dn], s) out of cells that are known. -/
theorem run_copy_cells {P : Program} {t t' ty e T : Nat} (ht : P.underlying t = some (.slice e)) (hs : (P.info? e).map (·.size) = some 1)
    {w : World} {b : Nat} {vs us : List Value} (hb : Blk w b T vs) (o dn dc : Nat) (a : Addr) (sn sc : Nat) (hn : us.length = Nat.min sn dn)
    (hsrc : ∀ j v, us[j]? = some v → w.cell? (a.add j) = some v) (hfit : o + us.length ≤ vs.length) (h1 : ∀ v ∈ us, v.oneCell' = true) :
    (Builtin.copy_ #[t, t'] ty #[sl b o dn dc, .slice (some a) sn sc]).run P w = .ok (goInt us.length) (w.setRow b (splice' vs us o).toArray) := by
  have h := run_copy_row (P := P) w t t' ty e b o dn dc a sn sc vs.toArray T us ht hs hb hn hsrc (by simpa using hfit) h1
  simpa [splice'] using h

theorem add_addr (b o j : Nat) : (⟨b, o, none⟩ : Addr).add j = ⟨b, o + j, none⟩ := by
  unfold Addr.add
  split <;> simp_all

/-- A row that is written from place o on by us. -/
theorem Blk.splice {w : World} {b T : Nat} {vs : List Value} (h : Blk w b T vs) (us : List Value) (o : Nat) :
    Blk (w.setRow b (splice' vs us o).toArray) b T (splice' vs us o) := h.setRow _

theorem splice_map (k : Nat → Value) (V U : List Nat) (o : Nat) : splice' (V.map k) (U.map k) o = (V.take o ++ U ++ V.drop (o + U.length)).map k := by
  simp [splice', List.map_take, List.map_drop]

theorem oneCell_map (k : Nat → Value) (hk : ∀ n, (k n).oneCell' = true) (L : List Nat) : ∀ v ∈ L.map k, v.oneCell' = true := by
  intro v hv
  obtain ⟨n, _, rfl⟩ := List.mem_map.1 hv
  exact hk n

end Go.Proofs.YtkhopfobjijnlaaGreatDoor
namespace Go.Proofs.YtkhopfobjijnlaaGreatDoor

/-- 2 to the 64. -/
def W : Nat := 18446744073709551616
theorem W_eq : W = 18446744073709551616 := rfl
theorem W_pos : 0 < W := by rw [W_eq]; omega

def addLo (x y c : Nat) : Nat := (x + y + c) % W
def addHi (x y c : Nat) : Nat := (x + y + c) / W
def subLo (x y c : Nat) : Nat := (x + W - y - c) % W
def subHi (x y c : Nat) : Nat := if x < y + c then 1 else 0
def mulLo (x y : Nat) : Nat := x * y % W
def mulHi (x y : Nat) : Nat := x * y / W

theorem addLo_lt (x y c : Nat) : addLo x y c < W := Nat.mod_lt _ W_pos
theorem subLo_lt (x y c : Nat) : subLo x y c < W := Nat.mod_lt _ W_pos
theorem mulLo_lt (x y : Nat) : mulLo x y < W := Nat.mod_lt _ W_pos
theorem addHi_le {x y c : Nat} (hx : x < W) (hy : y < W) (hc : c ≤ 1) : addHi x y c ≤ 1 := by
  unfold addHi
  rw [W_eq] at *
  omega
theorem subHi_le (x y c : Nat) : subHi x y c ≤ 1 := by unfold subHi; split <;> omega
theorem mulHi_lt {x y : Nat} (hx : x < W) (hy : y < W) : mulHi x y < W := by
  unfold mulHi
  exact Nat.div_lt_of_lt_mul (Nat.mul_lt_mul'' hx hy)
theorem add_eq (x y c : Nat) : addLo x y c + W * addHi x y c = x + y + c := Nat.mod_add_div _ _
theorem mul_eq (x y : Nat) : mulLo x y + W * mulHi x y = x * y := Nat.mod_add_div _ _
theorem sub_eq {x y c : Nat} (hx : x < W) (hy : y < W) (hc : c ≤ 1) : subLo x y c + y + c = x + W * subHi x y c := by
  unfold subLo subHi
  rw [W_eq] at *
  split <;> omega

/-- 1 where they are the same, else 0. -/
def eqB (x y : Nat) : Nat := if x = y then 1 else 0
theorem eqB_le (x y : Nat) : eqB x y ≤ 1 := by unfold eqB; split <;> omega

/-- How many bits a word has. -/
def blen (n : Nat) : Nat := if n = 0 then 0 else Nat.log2 n + 1

/-! Rows of words as numbers, the lowest first. -/
def val : List Nat → Nat
  | [] => 0
  | x :: l => x + W * val l

/-- All are words. -/
def Words (L : List Nat) : Prop := ∀ i, i < L.length → nth L i < W

theorem val_nil : val [] = 0 := rfl
theorem val_cons (x : Nat) (l : List Nat) : val (x :: l) = x + W * val l := rfl
theorem val_append (a b : List Nat) : val (a ++ b) = val a + W ^ a.length * val b := by
  induction a with
  | nil => simp [val]
  | cons x a ih => simp only [List.cons_append, val, ih, List.length_cons, Nat.pow_succ, Nat.mul_add, Nat.add_assoc, ← Nat.mul_assoc, Nat.mul_comm (W ^ a.length) W]
theorem val_snoc (a : List Nat) (x : Nat) : val (a ++ [x]) = val a + W ^ a.length * x := by simp [val_append, val]
theorem val_replicate0 (n : Nat) : val (List.replicate n 0) = 0 := by
  induction n with
  | zero => rfl
  | succ n ih => simp [List.replicate_succ, val, ih]

theorem Words.nil : Words [] := by intro i hi; simp at hi
theorem words_mem {L : List Nat} : Words L ↔ ∀ x ∈ L, x < W := by
  constructor
  · intro h x hx
    obtain ⟨i, hi, rfl⟩ := List.mem_iff_getElem.1 hx
    have := h i hi
    rwa [nth_eq _ _ hi] at this
  · intro h i hi
    rw [nth_eq _ _ hi]
    exact h _ (List.getElem_mem hi)
theorem Words.nth {L : List Nat} (h : Words L) (i : Nat) : Go.Proofs.YtkhopfobjijnlaaGreatDoor.nth L i < W := by
  by_cases hi : i < L.length
  · exact h i hi
  · rw [nth_ge (by omega)]; exact W_pos
theorem Words.append {a b : List Nat} (ha : Words a) (hb : Words b) : Words (a ++ b) := by
  rw [words_mem] at *
  intro x hx
  rcases List.mem_append.1 hx with h | h
  · exact ha x h
  · exact hb x h
theorem Words.set {a : List Nat} (ha : Words a) (i : Nat) {v : Nat} (hv : v < W) : Words (a.set i v) := by
  rw [words_mem] at *
  intro x hx
  rcases List.mem_or_eq_of_mem_set hx with h | h
  · exact ha x h
  · rw [h]; exact hv
theorem Words.take {a : List Nat} (ha : Words a) (i : Nat) : Words (a.take i) := by
  rw [words_mem] at *
  intro x hx
  exact ha x (List.mem_of_mem_take hx)
theorem Words.drop {a : List Nat} (ha : Words a) (i : Nat) : Words (a.drop i) := by
  rw [words_mem] at *
  intro x hx
  exact ha x (List.mem_of_mem_drop hx)
theorem Words.replicate0 (n : Nat) : Words (List.replicate n 0) := by
  intro i hi
  rw [nth_replicate0]; exact W_pos
theorem Words.cons {x : Nat} {l : List Nat} (hx : x < W) (h : Words l) : Words (x :: l) := by
  rw [words_mem] at *
  intro y hy
  rcases List.mem_cons.1 hy with h' | h'
  · rw [h']; exact hx
  · exact h y h'
theorem Words.tail {x : Nat} {l : List Nat} (h : Words (x :: l)) : x < W ∧ Words l := by
  rw [words_mem] at h
  exact ⟨h x (by simp), words_mem.2 fun y hy => h y (by simp [hy])⟩

theorem val_lt {L : List Nat} (h : Words L) : val L < W ^ L.length := by
  induction L with
  | nil => simp [val]
  | cons x l ih =>
    obtain ⟨hx, hl⟩ := h.tail
    have := ih hl
    simp only [val, List.length_cons, Nat.pow_succ]
    have h2 : W * (val l + 1) ≤ W * W ^ l.length := Nat.mul_le_mul_left _ this
    rw [Nat.mul_comm (W ^ l.length)]
    rw [Nat.mul_add] at h2
    omega

theorem val_inj {a b : List Nat} (hl : a.length = b.length) (ha : Words a) (hb : Words b) (h : val a = val b) : a = b := by
  induction a generalizing b with
  | nil => cases b with
    | nil => rfl
    | cons y b => simp at hl
  | cons x a ih => cases b with
    | nil => simp at hl
    | cons y b =>
      obtain ⟨hx, ha'⟩ := ha.tail
      obtain ⟨hy, hb'⟩ := hb.tail
      simp only [val] at h
      have hxy : x = y := by
        have h1 := congrArg (· % W) h
        simp only [Nat.add_mul_mod_self_left, Nat.mod_eq_of_lt hx, Nat.mod_eq_of_lt hy] at h1
        exact h1
      subst hxy
      have : val a = val b := Nat.eq_of_mul_eq_mul_left W_pos (by omega)
      rw [ih (by simpa using hl) ha' hb' this]

theorem val_take_succ {L : List Nat} {i : Nat} (h : i < L.length) : val (L.take (i + 1)) = val (L.take i) + W ^ i * nth L i := by
  rw [List.take_succ_eq_append_getElem h, val_snoc, nth_eq _ _ h]
  simp [Nat.min_eq_left (Nat.le_of_lt h)]

theorem val_split (L : List Nat) (i : Nat) (h : i ≤ L.length) : val L = val (L.take i) + W ^ i * val (L.drop i) := by
  conv => lhs; rw [← List.take_append_drop i L]
  rw [val_append]
  simp [Nat.min_eq_left h]

end Go.Proofs.YtkhopfobjijnlaaGreatDoor
namespace Go.Proofs.YtkhopfobjijnlaaGreatDoor
open Go.RowKit

/-- The model's entries for math/bits.Add64 and Sub64, by their places in its list. -/
def addEnt : Array Value → Sem Value := (Extern.MathBitsCarry.rows[0]'(by decide)).2
def subEnt : Array Value → Sem Value := (Extern.MathBitsCarry.rows[1]'(by decide)).2
theorem run_addEnt (P : Program) (x y c : Nat) (hc : c ≤ 1) (w : World) :
    (addEnt #[u64 x, u64 y, u64 c]).run P w = .ok (.tuple #[u64 (addLo x y c), u64 (addHi x y c)]) w := by
  have : c = 0 ∨ c = 1 := by omega
  rcases this with rfl | rfl <;> rfl
theorem run_subEnt (P : Program) (x y c : Nat) (hc : c ≤ 1) (w : World) :
    (subEnt #[u64 x, u64 y, u64 c]).run P w = .ok (.tuple #[u64 (subLo x y c), u64 (subHi x y c)]) w := by
  have : c = 0 ∨ c = 1 := by omega
  rcases this with rfl | rfl <;> rfl
theorem callAdd (x y c : Nat) (hc : c ≤ 1) (w : World) : (callFunc 124 #[u64 x, u64 y, u64 c]).run Tryz.prog w = .ok (.value (.tuple #[u64 (addLo x y c), u64 (addHi x y c)])) w := by
  rw [run_callFunc_extern (e := addEnt) Tryz.func124 (by kernel_rfl) (by kernel_rfl) (by kernel_rfl) (by kernel_rfl), run_addEnt _ _ _ _ hc]; rfl
theorem callSub (x y c : Nat) (hc : c ≤ 1) (w : World) : (callFunc 122 #[u64 x, u64 y, u64 c]).run Tryz.prog w = .ok (.value (.tuple #[u64 (subLo x y c), u64 (subHi x y c)])) w := by
  rw [run_callFunc_extern (e := subEnt) Tryz.func122 (by kernel_rfl) (by kernel_rfl) (by kernel_rfl) (by kernel_rfl), run_subEnt _ _ _ _ hc]; rfl

set_option maxRecDepth 100000 in
theorem c_Sub (x y b : Nat) (hb : b ≤ 1) (w : World) :
    Calls Tryz.prog 111 #[u64 x, u64 y, u64 b] w fun e w' => e = .returned (.tuple #[u64 (subLo x y b), u64 (subHi x y b)]) ∧ w = w' := by
  have hs := callSub x y b hb
  go_enter Tryz.func111, Tryz.ntmps111
  go_wp2
  go_ret2
  exact ⟨rfl, rfl⟩
set_option maxRecDepth 100000 in
theorem c_Add (x y b : Nat) (hb : b ≤ 1) (w : World) :
    Calls Tryz.prog 114 #[u64 x, u64 y, u64 b] w fun e w' => e = .returned (.tuple #[u64 (addLo x y b), u64 (addHi x y b)]) ∧ w = w' := by
  have hs := callAdd x y b hb
  go_enter Tryz.func114, Tryz.ntmps114
  go_wp2
  go_ret2
  exact ⟨rfl, rfl⟩

namespace Mul64
theorem maskN (a : Nat) (ha : a < 18446744073709551616) : bits .and .u64 (a : Int) 4294967295 = ((a % 4294967296 : Nat) : Int) := by
  have h := bits_and_u64_nat a 4294967295 ha (by omega)
  have e : a &&& 4294967295 = a % 4294967296 := Nat.and_two_pow_sub_one_eq_mod a 32
  rw [e] at h
  exact h
theorem divN (a : Nat) : (a : Int) / 4294967296 = ((a / 4294967296 : Nat) : Int) := by omega
theorem mulN (a b : Nat) : (a : Int) * (b : Int) = ((a * b : Nat) : Int) := (Int.natCast_mul a b).symm
theorem addN (a b : Nat) : (a : Int) + (b : Int) = ((a + b : Nat) : Int) := (Int.natCast_add a b).symm
theorem wrapN (a : Nat) (ha : a < 18446744073709551616) : IntKind.u64.wrap (a : Int) = (a : Int) := by rw [IntKind.wrap_u64]; omega
theorem wrapM (a : Nat) : IntKind.u64.wrap (a : Int) = ((a % 18446744073709551616 : Nat) : Int) := by rw [IntKind.wrap_u64]; omega
end Mul64

set_option maxRecDepth 100000 in
set_option maxHeartbeats 1000000 in
theorem c_Mul64 (x y : Nat) (hx : x < W) (hy : y < W) (w : World) :
    Calls Tryz.prog 126 #[u64 x, u64 y] w fun e w' => e = .returned (.tuple #[u64 (mulHi x y), u64 (mulLo x y)]) ∧ w = w' := by
  unfold mulHi mulLo
  rw [W_eq] at *
  obtain ⟨bd, bt, bw, hhi⟩ := Lib.mul64_hi x y hx hy
  have ba := Lib.half_mul_le (a := x / 4294967296) (b := y / 4294967296) (by omega) (by omega)
  have bb := Lib.half_mul_le (a := x / 4294967296) (b := y % 4294967296) (by omega) (by omega)
  have bc := Lib.half_mul_le (a := x % 4294967296) (b := y / 4294967296) (by omega) (by omega)
  have ba' : x / 4294967296 * (y / 4294967296) < 18446744073709551616 := by omega
  have bb' : x / 4294967296 * (y % 4294967296) < 18446744073709551616 := by omega
  have bc' : x % 4294967296 * (y / 4294967296) < 18446744073709551616 := by omega
  have bh1 : x / 4294967296 * (y / 4294967296) + (x / 4294967296 * (y % 4294967296) + x % 4294967296 * (y % 4294967296) / 4294967296) / 4294967296 < 18446744073709551616 := by omega
  have bh : x / 4294967296 * (y / 4294967296) + (x / 4294967296 * (y % 4294967296) + x % 4294967296 * (y % 4294967296) / 4294967296) / 4294967296 + ((x / 4294967296 * (y % 4294967296) + x % 4294967296 * (y % 4294967296) / 4294967296) % 4294967296 + x % 4294967296 * (y / 4294967296)) / 4294967296 < 18446744073709551616 := by omega
  go_enter Tryz.func126, Tryz.ntmps126
  go_wp2
  simp only [Mul64.maskN x hx, Mul64.maskN y hy, Mul64.divN, Mul64.mulN, Mul64.addN, Mul64.wrapN _ bd, Mul64.wrapN _ bb', Mul64.wrapN _ bt, Mul64.maskN _ bt, Mul64.wrapN _ bc', Mul64.wrapN _ bw, Mul64.wrapN _ ba', Mul64.wrapN _ bh1, Mul64.wrapN _ bh, Mul64.wrapM (x * y)]
  rw [hhi]
  go_ret2
  exact ⟨rfl, rfl⟩

set_option maxRecDepth 100000 in
theorem c_Mul (x y : Nat) (hx : x < W) (hy : y < W) (w : World) :
    Calls Tryz.prog 116 #[u64 x, u64 y] w fun e w' => e = .returned (.tuple #[u64 (mulHi x y), u64 (mulLo x y)]) ∧ w = w' := by
  go_enter Tryz.func116, Tryz.ntmps116
  go_wp2_with (go_at_call 126; refine (c_Mul64 x y hx hy _).mono ?_; rintro e w' ⟨rfl, rfl⟩)
  go_ret2
  exact ⟨rfl, rfl⟩

/-- 1 less a bit. -/
def notB (c : Nat) : Nat := 1 - c
theorem notB_le (c : Nat) : notB c ≤ 1 := by unfold notB; omega

theorem xor_one {c : Nat} (hc : c ≤ 1) : bits .xor .u64 1 (c : Int) = ((notB c : Nat) : Int) := by
  have : c = 0 ∨ c = 1 := by omega
  rcases this with rfl | rfl <;> decide +kernel
theorem or_bit {b c : Nat} (hb : b ≤ 1) (hc : c ≤ 1) : bits .or .u64 (b : Int) (c : Int) = ((max b c : Nat) : Int) := by
  have : c = 0 ∨ c = 1 := by omega
  have : b = 0 ∨ b = 1 := by omega
  rcases this with rfl | rfl <;> rcases ‹c = 0 ∨ c = 1› with rfl | rfl <;> decide +kernel
theorem and_bit {b c : Nat} (hb : b ≤ 1) (hc : c ≤ 1) : bits .and .u64 (b : Int) (c : Int) = ((min b c : Nat) : Int) := by
  have : c = 0 ∨ c = 1 := by omega
  have : b = 0 ∨ b = 1 := by omega
  rcases this with rfl | rfl <;> rcases ‹c = 0 ∨ c = 1› with rfl | rfl <;> decide +kernel

set_option maxRecDepth 100000 in
theorem c_not (c : Nat) (hc : c ≤ 1) (w : World) : Calls Tryz.prog 92 #[u64 c] w fun e w' => e = .returned (u64 (notB c)) ∧ w = w' := by
  have hx := xor_one hc
  go_enter Tryz.func92, Tryz.ntmps92
  go_wp2
  go_ret
  exact ⟨rfl, rfl⟩

/-- All ones, or 0. -/
def maskB (c : Nat) : Nat := if c = 0 then 0 else W - 1
theorem neg_bit {c : Nat} (hc : c ≤ 1) : IntKind.u64.wrap (-(c : Int)) = ((maskB c : Nat) : Int) := by
  have : c = 0 ∨ c = 1 := by omega
  rcases this with rfl | rfl <;> decide +kernel

set_option maxRecDepth 100000 in
theorem c_ctMask (c : Nat) (hc : c ≤ 1) (w : World) : Calls Tryz.prog 115 #[u64 c] w fun e w' => e = .returned (u64 (maskB c)) ∧ w = w' := by
  have hx := neg_bit hc
  go_enter Tryz.func115, Tryz.ntmps115
  go_wp2
  go_ret
  exact ⟨rfl, rfl⟩

theorem eq_of_subs (x y : Nat) : notB (max (subHi x y 0) (subHi y x 0)) = eqB x y := by
  unfold notB subHi eqB
  split <;> split <;> split <;> omega

set_option maxRecDepth 100000 in
theorem c_ctEq (x y : Nat) (w : World) : Calls Tryz.prog 91 #[u64 x, u64 y] w fun e w' => e = .returned (u64 (eqB x y)) ∧ w = w' := by
  have hx := or_bit (subHi_le x y 0) (subHi_le y x 0)
  have hle : max (subHi x y 0) (subHi y x 0) ≤ 1 := by have := subHi_le x y 0; have := subHi_le y x 0; omega
  have he := hide (eq_of_subs x y)
  go_enter Tryz.func91, Tryz.ntmps91
  go_wp2_with fail
  refine (c_Sub x y 0 (by omega) _).mono ?_; rintro e w' ⟨rfl, rfl⟩
  go_wp2_with fail
  refine (c_Sub y x 0 (by omega) _).mono ?_; rintro e w' ⟨rfl, rfl⟩
  go_wp2_with fail
  refine (c_not _ hle _).mono ?_; rintro e w' ⟨rfl, rfl⟩
  go_wp2_with fail
  go_ret
  exact ⟨by rw [he.out]; rfl, rfl⟩

end Go.Proofs.YtkhopfobjijnlaaGreatDoor
