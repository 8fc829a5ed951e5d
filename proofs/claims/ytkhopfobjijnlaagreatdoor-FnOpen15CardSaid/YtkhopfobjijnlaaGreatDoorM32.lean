/- Plain laws on numbers: primes, Fermat, Pocklington. No program stands in them. Pocklington's test, for the kernel to run. No program stands here. -/
import Derived.KernelRfl
set_option linter.all false
namespace Go.Proofs.YtkhopfobjijnlaaGreatDoor

/-- A prime number. -/
def Prm (p : Nat) : Prop := 1 < p ∧ ∀ d, d ∣ p → d = 1 ∨ d = p

theorem Prm.cop {p a : Nat} (hp : Prm p) (h : ¬ p ∣ a) : Nat.Coprime p a := by
  rcases hp.2 (Nat.gcd p a) (Nat.gcd_dvd_left p a) with h1 | h1
  · exact h1
  · exact absurd (h1 ▸ Nat.gcd_dvd_right p a) h
theorem Prm.dvd_mul {p a b : Nat} (hp : Prm p) (h : p ∣ a * b) : p ∣ a ∨ p ∣ b := by
  by_cases ha : p ∣ a
  · exact .inl ha
  · exact .inr ((hp.cop ha).dvd_of_dvd_mul_left h)
theorem Prm.pos {p : Nat} (hp : Prm p) : 0 < p := by have := hp.1; omega
theorem Prm.pow {p a n : Nat} (hp : Prm p) (h : p ∣ a ^ n) : p ∣ a := by
  induction n with
  | zero =>
    have h1 := Nat.le_of_dvd (by simp) h
    have h2 := hp.1
    rw [Nat.pow_zero] at h1
    omega
  | succ n ih =>
    rcases hp.dvd_mul h with h | h
    · exact ih h
    · exact h

/-- How many choices of k among n. -/
def chs : Nat → Nat → Nat
  | _, 0 => 1
  | 0, _ + 1 => 0
  | n + 1, k + 1 => chs n k + chs n (k + 1)
theorem chs_zero (n : Nat) : chs n 0 = 1 := by cases n <;> rfl
theorem chs_gt : ∀ {n k : Nat}, n < k → chs n k = 0
  | 0, 0, h => by omega
  | 0, _ + 1, _ => rfl
  | n + 1, 0, h => by omega
  | n + 1, k + 1, h => by simp only [chs]; rw [chs_gt (by omega), chs_gt (by omega)]
theorem chs_self : ∀ n, chs n n = 1
  | 0 => rfl
  | n + 1 => by simp only [chs]; rw [chs_self n, chs_gt (by omega)]
theorem chs_mul : ∀ n k, (k + 1) * chs (n + 1) (k + 1) = (n + 1) * chs n k
  | 0, 0 => rfl
  | 0, k + 1 => by simp [chs]
  | n + 1, 0 => by
    have := chs_mul n 0
    simp only [chs, chs_zero] at *
    omega
  | n + 1, k + 1 => by
    have h1 := chs_mul n k
    have h2 := chs_mul n (k + 1)
    have e1 : chs (n + 1 + 1) (k + 1 + 1) = chs (n + 1) (k + 1) + chs (n + 1) (k + 1 + 1) := rfl
    have e2 : chs (n + 1) (k + 1) = chs n k + chs n (k + 1) := rfl
    rw [e1]
    generalize chs (n + 1) (k + 1) = x at *
    generalize chs (n + 1) (k + 1 + 1) = y at *
    generalize chs n k = u at *
    generalize chs n (k + 1) = v at *
    subst e2
    grind
/-- The binomial sum of (1 + a) to the n, its first m terms. -/
def bsum (n a : Nat) : Nat → Nat
  | 0 => 0
  | m + 1 => bsum n a m + chs n m * a ^ m
theorem bsum_step (n a : Nat) : ∀ m, bsum (n + 1) a (m + 1) = bsum n a (m + 1) + a * bsum n a m
  | 0 => by simp [bsum, chs_zero]
  | m + 1 => by
    have ih := bsum_step n a m
    have e1 : bsum (n + 1) a (m + 1 + 1) = bsum (n + 1) a (m + 1) + chs (n + 1) (m + 1) * a ^ (m + 1) := rfl
    have e2 : bsum n a (m + 1 + 1) = bsum n a (m + 1) + chs n (m + 1) * a ^ (m + 1) := rfl
    have e3 : bsum n a (m + 1) = bsum n a m + chs n m * a ^ m := rfl
    have e4 : chs (n + 1) (m + 1) = chs n m + chs n (m + 1) := rfl
    rw [e1, ih, e2, e4, Nat.pow_succ]
    rw [e3]
    grind
theorem bsum_eq (a : Nat) : ∀ n, bsum n a (n + 1) = (1 + a) ^ n
  | 0 => by simp [bsum, chs_zero]
  | n + 1 => by
    have ih := bsum_eq a n
    have h := bsum_step n a (n + 1)
    have e : bsum n a (n + 1 + 1) = bsum n a (n + 1) := by
      show bsum n a (n + 1) + chs n (n + 1) * a ^ (n + 1) = _
      rw [chs_gt (by omega)]; simp
    rw [h, e, ih, Nat.pow_succ]
    grind
theorem Prm.chs {p k : Nat} (hp : Prm p) (h0 : 0 < k) (hk : k < p) : p ∣ chs p k := by
  obtain ⟨n, rfl⟩ : ∃ n, p = n + 1 := ⟨p - 1, by have := hp.1; omega⟩
  obtain ⟨j, rfl⟩ : ∃ j, k = j + 1 := ⟨k - 1, by omega⟩
  have h : (n + 1) ∣ (j + 1) * Go.Proofs.YtkhopfobjijnlaaGreatDoor.chs (n + 1) (j + 1) := by rw [chs_mul]; exact Nat.dvd_mul_right _ _
  rcases hp.dvd_mul h with h | h
  · have := Nat.le_of_dvd (by omega) h; omega
  · exact h
theorem Prm.frob {p : Nat} (hp : Prm p) (a : Nat) : (1 + a) ^ p % p = (1 + a ^ p) % p := by
  have hm : ∀ m, m < p → bsum p a (m + 1) % p = 1 % p := by
    intro m
    induction m with
    | zero => intro _; simp [bsum, chs_zero]
    | succ m ih =>
      intro h
      obtain ⟨c, hc⟩ := hp.chs (k := m + 1) (by omega) h
      show (bsum p a (m + 1) + Go.Proofs.YtkhopfobjijnlaaGreatDoor.chs p (m + 1) * a ^ (m + 1)) % p = _
      rw [hc, Nat.mul_assoc, Nat.add_mul_mod_self_left]
      exact ih (by omega)
  have h := hm (p - 1) (by have := hp.1; omega)
  rw [show p - 1 + 1 = p by have := hp.1; omega] at h
  rw [← bsum_eq a p]
  show (bsum p a p + Go.Proofs.YtkhopfobjijnlaaGreatDoor.chs p p * a ^ p) % p = _
  rw [chs_self, Nat.one_mul, Nat.add_mod, h, ← Nat.add_mod]
/-- Fermat. -/
theorem Prm.fermat {p : Nat} (hp : Prm p) (a : Nat) : a ^ p % p = a % p := by
  induction a with
  | zero => rw [Nat.zero_pow hp.pos]
  | succ a ih => rw [Nat.add_comm a 1, hp.frob a, Nat.add_mod, ih, ← Nat.add_mod]
theorem Prm.fermat1 {p a : Nat} (hp : Prm p) (h : ¬ p ∣ a) : a ^ (p - 1) % p = 1 := by
  have h1 := hp.fermat a
  have hp1 := hp.1
  have hpos : 1 ≤ a ^ (p - 1) := Nat.pow_pos (Nat.pos_of_ne_zero (fun h0 => h (by rw [h0]; exact Nat.dvd_zero p)))
  have e : a ^ p = a * a ^ (p - 1) := by
    have e1 : a ^ (p - 1 + 1) = a * a ^ (p - 1) := by rw [Nat.pow_succ, Nat.mul_comm]
    rwa [show p - 1 + 1 = p by omega] at e1
  have h2 : p ∣ a * (a ^ (p - 1) - 1) := by
    rw [Nat.mul_sub, Nat.mul_one, ← e]
    exact Nat.dvd_of_mod_eq_zero (Nat.sub_mod_eq_zero_of_mod_eq h1)
  rcases hp.dvd_mul h2 with h3 | h3
  · exact absurd h3 h
  · obtain ⟨c, hc⟩ := h3
    have : a ^ (p - 1) = 1 + p * c := by omega
    rw [this, Nat.add_mul_mod_self_left, Nat.mod_eq_of_lt hp1]

/-! The order of a number: what exponents give 1. -/
/-- The exponents that give 1, of anything. -/
structure Exps (E : Nat → Prop) : Prop where
  zero : E 0
  add : ∀ m n, E m → (E (m + n) ↔ E n)
theorem Exps.mul {E : Nat → Prop} (h : Exps E) {m : Nat} (hm : E m) : ∀ j, E (m * j)
  | 0 => h.zero
  | j + 1 => by rw [Nat.mul_add, Nat.mul_one, Nat.add_comm]; exact (h.add m _ hm).2 (h.mul hm j)
theorem Exps.mod {E : Nat → Prop} (h : Exps E) {m n : Nat} (hm : E m) (hn : E n) : E (n % m) := by
  have h1 := h.mul hm (n / m)
  have h2 := Nat.div_add_mod n m
  rw [← h2] at hn
  exact (h.add _ _ h1).1 hn
theorem Exps.gcd {E : Nat → Prop} (h : Exps E) : ∀ m n, E m → E n → E (Nat.gcd m n) := by
  intro m n
  induction m, n using Nat.gcd.induction with
  | H0 n => intro _ hn; rw [Nat.gcd_zero_left]; exact hn
  | H1 m n hpos ih => intro hm hn; rw [Nat.gcd_rec]; exact ih (h.mod hm hn) hm
theorem Prm.dvd_pow {r : Nat} (hr : Prm r) : ∀ {e x : Nat}, x ∣ r ^ (e + 1) → x ≠ r ^ (e + 1) → x ∣ r ^ e
  | e, x, h, hne => by
    by_cases hx : r ∣ x
    · obtain ⟨y, rfl⟩ := hx
      have h1 : y ∣ r ^ e := by
        rw [Nat.pow_succ, Nat.mul_comm (r ^ e) r] at h
        exact Nat.dvd_of_mul_dvd_mul_left hr.pos h
      have h2 : y ≠ r ^ e := fun h2 => hne (by rw [h2, Nat.pow_succ, Nat.mul_comm])
      cases e with
      | zero =>
        rw [Nat.pow_zero] at h1 h2
        exact absurd (Nat.dvd_one.1 h1) h2
      | succ e =>
        have h3 := hr.dvd_pow h1 h2
        rw [Nat.pow_succ, Nat.mul_comm]
        exact Nat.mul_dvd_mul h3 (Nat.dvd_refl r)
    · rw [Nat.pow_succ] at h
      exact (Nat.Coprime.symm (hr.cop hx)).dvd_of_dvd_mul_right h
/-- A prime power that is wholly in the order divides every exponent that gives 1. -/
theorem Exps.order {E : Nat → Prop} (h : Exps E) {r e k m : Nat} (hr : Prm r) (hE : E (r ^ (e + 1) * k)) (hne : ¬ E (r ^ e * k)) (hm : E m) : r ^ (e + 1) ∣ m := by
  have hg := h.gcd _ _ hE hm
  by_cases hd : r ^ (e + 1) ∣ m
  · exact hd
  · exfalso
    apply hne
    generalize hgg : Nat.gcd (r ^ (e + 1) * k) m = g at hg
    have g1 : g ∣ r ^ (e + 1) * k := hgg ▸ Nat.gcd_dvd_left _ _
    have g2 : g ∣ m := hgg ▸ Nat.gcd_dvd_right _ _
    have hpos : 0 < Nat.gcd g (r ^ (e + 1)) := Nat.gcd_pos_of_pos_right _ (Nat.pow_pos hr.pos)
    have hx1 : Nat.gcd g (r ^ (e + 1)) ∣ r ^ e := by
      refine hr.dvd_pow (Nat.gcd_dvd_right _ _) (fun hx => hd (Nat.dvd_trans ?_ g2))
      rw [← hx]
      exact Nat.gcd_dvd_left _ _
    generalize hxx : Nat.gcd g (r ^ (e + 1)) = x at hpos hx1
    have hcop : Nat.Coprime (g / x) (r ^ (e + 1) / x) := by rw [← hxx] at hpos ⊢; exact Nat.coprime_div_gcd_div_gcd hpos
    have hxg : x ∣ g := hxx ▸ Nat.gcd_dvd_left _ _
    have hxr : x ∣ r ^ (e + 1) := hxx ▸ Nat.gcd_dvd_right _ _
    obtain ⟨g', rfl⟩ := hxg
    obtain ⟨s, hs⟩ := hxr
    rw [hs, Nat.mul_div_cancel_left _ hpos, Nat.mul_div_cancel_left _ hpos] at hcop
    rw [hs, Nat.mul_assoc] at g1
    have g3 := hcop.dvd_of_dvd_mul_left (Nat.dvd_of_mul_dvd_mul_left hpos g1)
    obtain ⟨c, hc⟩ := Nat.mul_dvd_mul hx1 g3
    rw [hc]
    exact h.mul hg c

/-- The exponents of a modulo q. -/
theorem exps_pow {q a : Nat} (hq : 1 < q) : Exps (fun n => a ^ n % q = 1) :=
  ⟨by rw [Nat.pow_zero]; exact Nat.mod_eq_of_lt hq, fun m n hm => by
    show a ^ (m + n) % q = 1 ↔ a ^ n % q = 1
    rw [Nat.pow_add, Nat.mul_mod, hm, Nat.one_mul, Nat.mod_mod]⟩
end Go.Proofs.YtkhopfobjijnlaaGreatDoor
namespace Go.Proofs.YtkhopfobjijnlaaGreatDoor

theorem prime_factor : ∀ n, 1 < n → ∃ q, Prm q ∧ q ∣ n := by
  intro n
  induction n using Nat.strongRecOn with
  | ind n ih =>
    intro h1
    by_cases hp : Prm n
    · exact ⟨n, hp, Nat.dvd_refl n⟩
    · have : ∃ d, d ∣ n ∧ d ≠ 1 ∧ d ≠ n := by
        apply Classical.byContradiction
        intro hno
        exact hp ⟨h1, fun d hd => by
          by_cases h1 : d = 1
          · exact .inl h1
          · by_cases h2 : d = n
            · exact .inr h2
            · exact absurd ⟨d, hd, h1, h2⟩ hno⟩
      obtain ⟨d, hd, hd1, hdn⟩ := this
      have hle := Nat.le_of_dvd (by omega) hd
      have hpos : 0 < d := Nat.pos_of_dvd_of_pos hd (by omega)
      obtain ⟨q, hq, hqd⟩ := ih d (by omega) (by omega)
      exact ⟨q, hq, Nat.dvd_trans hqd hd⟩
theorem prime_of_big {n : Nat} (h1 : 1 < n) (h : ∀ q, Prm q → q ∣ n → n < q * q) : Prm n := by
  refine ⟨h1, fun d hd => ?_⟩
  by_cases hd1 : d = 1
  · exact .inl hd1
  · by_cases hdn : d = n
    · exact .inr hdn
    · exfalso
      obtain ⟨e, he⟩ := hd
      have hd0 : 0 < d := Nat.pos_of_ne_zero (fun h0 => by rw [h0, Nat.zero_mul] at he; omega)
      have he0 : 0 < e := Nat.pos_of_ne_zero (fun h0 => by rw [h0, Nat.mul_zero] at he; omega)
      have he1 : e ≠ 1 := fun h0 => by rw [h0, Nat.mul_one] at he; omega
      have key : ∀ x y, n = x * y → 1 < x → x ≤ y → False := by
        intro x y hxy hx hle
        obtain ⟨q, hq, hqx⟩ := prime_factor x hx
        have h2 := h q hq (Nat.dvd_trans hqx ⟨y, hxy⟩)
        have h3 := Nat.le_of_dvd (by omega) hqx
        have h4 : q * q ≤ x * y := Nat.mul_le_mul h3 (Nat.le_trans h3 hle)
        omega
      rcases Nat.le_total d e with hle | hle
      · exact key d e he (by omega) hle
      · exact key e d (by rw [he, Nat.mul_comm]) (by omega) hle

/-- a to the power of e modulo n, by halves. -/
def mpow (n : Nat) : Nat → Nat → Nat → Nat
  | 0, _, _ => 1 % n
  | f + 1, a, e => if e % 2 = 0 then mpow n f (a * a % n) (e / 2) else a * mpow n f (a * a % n) (e / 2) % n
theorem mpow_eq (n : Nat) : ∀ f a e, e < 2 ^ f → mpow n f a e = a ^ e % n
  | 0, a, e, h => by
    have : e = 0 := by simpa using h
    subst this
    rfl
  | f + 1, a, e, h => by
    have h2 : e / 2 < 2 ^ f := by rw [Nat.pow_succ] at h; omega
    have ih := mpow_eq n f (a * a % n) (e / 2) h2
    have e1 : (a * a % n) ^ (e / 2) % n = a ^ (2 * (e / 2)) % n := by rw [← Nat.pow_mod, Nat.pow_mul, Nat.pow_two]
    simp only [mpow]
    rw [ih, e1]
    split
    · rw [show 2 * (e / 2) = e by omega]
    · rw [Nat.mul_mod, Nat.mod_mod, ← Nat.mul_mod, Nat.mul_comm, ← Nat.pow_succ, show (2 * (e / 2)).succ = e by omega]

/-- One row of a certificate: a prime r, its power in N - 1, and what it is tried at. -/
def rowB (N r e a : Nat) : Bool :=
  decide (0 < e) && decide ((N - 1) % r ^ e = 0) && decide (mpow N 700 a (N - 1) = 1) && decide (Nat.gcd (mpow N 700 a ((N - 1) / r) + (N - 1)) N = 1)
def allP : List (Nat × Nat × Nat) → Prop
  | [] => True
  | (r, _, _) :: L => Prm r ∧ allP L
def prodL : List (Nat × Nat × Nat) → Nat
  | [] => 1
  | (r, e, _) :: L => r ^ e * prodL L
def rowsB (N : Nat) : List (Nat × Nat × Nat) → Bool
  | [] => true
  | (r, e, a) :: L => rowB N r e a && decide (Nat.gcd (r ^ e) (prodL L) = 1) && rowsB N L
def pockB (N : Nat) (L : List (Nat × Nat × Nat)) : Bool := decide (1 < N) && decide (N < 2 ^ 700) && decide (N < (prodL L + 1) * (prodL L + 1)) && rowsB N L

theorem row_dvd {N r e a q : Nat} (h1 : 1 < N) (h7 : N < 2 ^ 700) (h : rowB N r e a = true) (hr : Prm r) (hq : Prm q) (hqN : q ∣ N) : r ^ e ∣ q - 1 := by
  simp only [rowB, Bool.and_eq_true, decide_eq_true_eq] at h
  obtain ⟨⟨⟨he, hd⟩, hp⟩, hg⟩ := h
  obtain ⟨e, rfl⟩ : ∃ e', e = e' + 1 := ⟨e - 1, by omega⟩
  rw [mpow_eq N 700 a _ (by omega)] at hp
  rw [mpow_eq N 700 a _ (Nat.lt_of_le_of_lt (Nat.div_le_self _ _) (by omega))] at hg
  obtain ⟨k, hk⟩ := Nat.dvd_of_mod_eq_zero hd
  have hq1 := hq.1
  have ex := exps_pow (q := q) (a := a) hq1
  have hE : a ^ (r ^ (e + 1) * k) % q = 1 := by
    rw [← hk]
    have h2 := Nat.mod_mod_of_dvd (a ^ (N - 1)) hqN
    rw [hp] at h2
    rw [← h2]
    exact Nat.mod_eq_of_lt hq1
  have hdiv : (N - 1) / r = r ^ e * k := by
    rw [hk, Nat.pow_succ, Nat.mul_comm (r ^ e) r, Nat.mul_assoc]
    exact Nat.mul_div_cancel_left _ hr.pos
  have hne : ¬ a ^ (r ^ e * k) % q = 1 := by
    intro hone
    rw [hdiv] at hg
    have h2 : a ^ (r ^ e * k) % N % q = 1 := by rw [Nat.mod_mod_of_dvd _ hqN]; exact hone
    have h3 : q ∣ a ^ (r ^ e * k) % N + (N - 1) := by
      generalize a ^ (r ^ e * k) % N = x at h2
      obtain ⟨c, rfl⟩ := hqN
      have h4 := Nat.mod_add_div x q
      rw [h2] at h4
      refine ⟨x / q + c, ?_⟩
      rw [Nat.mul_add]
      omega
    have h5 := Nat.dvd_gcd h3 hqN
    rw [hg] at h5
    have := Nat.le_of_dvd (by omega) h5
    omega
  have hm : a ^ (q - 1) % q = 1 := by
    refine hq.fermat1 (fun hqa => ?_)
    have h2 : a ^ (r ^ (e + 1) * k) % q = 0 := by
      refine Nat.mod_eq_zero_of_dvd (Nat.dvd_trans hqa ?_)
      rw [← hk]
      obtain ⟨m, hm⟩ : ∃ m, N - 1 = m + 1 := ⟨N - 2, by omega⟩
      rw [hm, Nat.pow_succ]
      exact Nat.dvd_mul_left _ _
    omega
  exact ex.order hr hE hne hm

theorem rows_dvd {N q : Nat} (h1 : 1 < N) (h7 : N < 2 ^ 700) (hq : Prm q) (hqN : q ∣ N) : ∀ L, rowsB N L = true → allP L → prodL L ∣ q - 1
  | [], _, _ => Nat.one_dvd _
  | (r, e, a) :: L, h, hp => by
    simp only [rowsB, Bool.and_eq_true, decide_eq_true_eq] at h
    have h2 := row_dvd h1 h7 h.1.1 hp.1 hq hqN
    have h3 := rows_dvd h1 h7 hq hqN L h.2 hp.2
    exact Nat.Coprime.mul_dvd_of_dvd_of_dvd h.1.2 h2 h3

theorem pock {N : Nat} (L : List (Nat × Nat × Nat)) (h : pockB N L = true) (hp : allP L) : Prm N := by
  simp only [pockB, Bool.and_eq_true, decide_eq_true_eq] at h
  obtain ⟨⟨⟨h1, h7⟩, hbig⟩, hrows⟩ := h
  refine prime_of_big h1 (fun q hq hqN => ?_)
  have h2 := rows_dvd h1 h7 hq hqN L hrows hp
  have h3 := Nat.le_of_dvd (by have := hq.1; omega) h2
  have h4 : (prodL L + 1) * (prodL L + 1) ≤ q * q := Nat.mul_le_mul (by have := hq.1; omega) (by have := hq.1; omega)
  omega

/-- Small primes, by trial. -/
def noDiv (n : Nat) : Nat → Bool
  | 0 => true
  | f + 1 => (decide (f < 2) || decide (n % f ≠ 0)) && noDiv n f
theorem noDiv_law {n : Nat} : ∀ f, noDiv n f = true → ∀ d, 2 ≤ d → d < f → n % d ≠ 0
  | 0, _, d, _, h => by omega
  | f + 1, h, d, h2, hd => by
    simp only [noDiv, Bool.and_eq_true, Bool.or_eq_true, decide_eq_true_eq] at h
    rcases Nat.lt_or_ge d f with hlt | hge
    · exact noDiv_law f h.2 d h2 hlt
    · obtain rfl : d = f := by omega
      rcases h.1 with h3 | h3
      · omega
      · exact h3
theorem small_prime {n : Nat} (f : Nat) (h1 : 1 < n) (hf : n < f * f) (h : noDiv n f = true) : Prm n := by
  refine prime_of_big h1 (fun q hq hqn => ?_)
  have h2 := hq.1
  rcases Nat.lt_or_ge q f with hlt | hge
  · exact absurd (Nat.mod_eq_zero_of_dvd hqn) (noDiv_law f h q (by omega) hlt)
  · have : f * f ≤ q * q := Nat.mul_le_mul hge hge
    omega
end Go.Proofs.YtkhopfobjijnlaaGreatDoor
