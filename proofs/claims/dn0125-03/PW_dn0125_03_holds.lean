import PyProof.Rows.All
import Wide.All
import OpenK.AllK
import Wide.FinOn
import PySem.Challenge.RW_dn0125_03
set_option Elab.async false
set_option linter.unusedVariables false
/- a logarithm of positive rationals by its bounds: LO r q says r ≤ log q, UP r q says log q ≤ r -/
namespace Lg
theorem tot (a b : Rat) : a ≤ b ∨ b ≤ a := Rat.le_total

theorem pow_nonneg {a : Rat} (h : 0 ≤ a) (n : Nat) : 0 ≤ a ^ n := by
  induction n with
  | zero => rw [Rat.pow_zero]; decide
  | succ n ih => rw [Rat.pow_succ]; exact Rat.mul_nonneg ih h
theorem pow_pos {a : Rat} (h : 0 < a) (n : Nat) : 0 < a ^ n := by
  induction n with
  | zero => rw [Rat.pow_zero]; decide
  | succ n ih => rw [Rat.pow_succ]; exact Rat.mul_pos ih h
theorem mul_le_mul {a b c d : Rat} (h1 : a ≤ b) (h2 : c ≤ d) (ha : 0 ≤ a) (hd : 0 ≤ d) : a * c ≤ b * d := by
  have x := Rat.mul_le_mul_of_nonneg_left h2 ha
  have y := Rat.mul_le_mul_of_nonneg_left h1 hd
  grind
theorem pow_le_pow {a b : Rat} (h : 0 ≤ a) (hab : a ≤ b) (n : Nat) : a ^ n ≤ b ^ n := by
  induction n with
  | zero => rw [Rat.pow_zero, Rat.pow_zero]; decide
  | succ n ih => rw [Rat.pow_succ, Rat.pow_succ]; exact mul_le_mul ih hab (pow_nonneg h n) (by grind)
theorem pow_lt_pow {a b : Rat} (h : 0 ≤ a) (hab : a < b) : ∀ n : Nat, 0 < n → a ^ n < b ^ n
  | 0, hn => absurd hn (by decide)
  | 1, _ => by simpa using hab
  | n + 2, _ => by
    have ih := pow_lt_pow h hab (n + 1) (by omega)
    rw [Rat.pow_succ, Rat.pow_succ b]
    have h1 : 0 ≤ a ^ (n + 1) := pow_nonneg h _
    have h2 := Rat.mul_le_mul_of_nonneg_left (show a ≤ b by grind) h1
    have h3 := Rat.mul_pos (show 0 < b ^ (n + 1) - a ^ (n + 1) by grind) (show 0 < b by grind)
    grind
theorem mul_pow (a b : Rat) (n : Nat) : (a * b) ^ n = a ^ n * b ^ n := by
  induction n with
  | zero => simp [Rat.pow_zero]
  | succ n ih => rw [Rat.pow_succ, Rat.pow_succ, Rat.pow_succ, ih]; grind
theorem one_pow (n : Nat) : (1 : Rat) ^ n = 1 := by
  induction n with
  | zero => rfl
  | succ n ih => rw [Rat.pow_succ, ih]; grind
/-- Bernoulli -/
theorem bern {x : Rat} (h : -1 ≤ x) (n : Nat) : 1 + n * x ≤ (1 + x) ^ n := by
  induction n with
  | zero => simp [Rat.pow_zero]; grind
  | succ n ih =>
    rw [Rat.pow_succ]
    have h0 : 0 ≤ 1 + x := by grind
    have h1 := Rat.mul_le_mul_of_nonneg_left ih h0
    have h2 : 0 ≤ (n : Rat) := by exact_mod_cast Nat.zero_le n
    have hx : 0 ≤ x * x := by
      rcases tot 0 x with a | a
      · exact Rat.mul_nonneg a a
      · have := Rat.mul_nonneg (show 0 ≤ -x by grind) (show 0 ≤ -x by grind); grind
    have h3 := Rat.mul_nonneg h2 hx
    have e : ((n + 1 : Nat) : Rat) = (n : Rat) + 1 := by push_cast; rfl
    rw [e]
    grind
/-- a number of turns above any bound -/
theorem arch (c : Rat) : ∃ N : Nat, c ≤ N := by
  refine ⟨c.ceil.toNat, ?_⟩
  have h := Rat.le_ceil (x := c)
  have h2 : (c.ceil : Rat) ≤ ((c.ceil.toNat : Int) : Rat) := by
    rw [Rat.intCast_le_intCast]; omega
  have h3 : (((c.ceil.toNat : Nat) : Int) : Rat) = ((c.ceil.toNat : Nat) : Rat) := by norm_cast
  grind

def Ev (P : Nat → Prop) : Prop := ∃ N0 : Nat, ∀ N : Nat, N0 ≤ N → 0 < N → P N
theorem Ev.and {P Q : Nat → Prop} (h : Ev P) (g : Ev Q) : Ev fun N => P N ∧ Q N := by
  obtain ⟨a, ha⟩ := h
  obtain ⟨b, hb⟩ := g
  exact ⟨a + b, fun N hN h0 => ⟨ha N (by omega) h0, hb N (by omega) h0⟩⟩
theorem Ev.mono {P Q : Nat → Prop} (h : Ev P) (f : ∀ N : Nat, 0 < N → P N → Q N) : Ev Q := by
  obtain ⟨a, ha⟩ := h
  exact ⟨a, fun N hN h0 => f N h0 (ha N hN h0)⟩
theorem Ev.some {P : Nat → Prop} (h : Ev P) : ∃ N : Nat, 0 < N ∧ P N := by
  obtain ⟨a, ha⟩ := h
  exact ⟨a + 1, by omega, ha _ (by omega) (by omega)⟩
theorem Ev.large (c : Rat) : Ev fun N => c ≤ N := by
  obtain ⟨a, ha⟩ := arch c
  refine ⟨a, fun N hN _ => ?_⟩
  have : (a : Rat) ≤ (N : Rat) := Rat.natCast_le_natCast.mpr hN
  grind
theorem npos {N : Nat} (h : 0 < N) : (0 : Rat) < N := by exact_mod_cast h

def LO (r q : Rat) : Prop := ∀ d : Rat, 0 < d → Ev fun N => (1 + (r - d) / N) ^ N ≤ q
def UP (r q : Rat) : Prop := ∀ d : Rat, 0 < d → Ev fun N => q ≤ (1 + (r + d) / N) ^ N

theorem div_small {c : Rat} : Ev fun N => -1 ≤ c / N ∧ c / N ≤ 1 := by
  refine ((Ev.large c).and (Ev.large (-c))).mono fun N h0 h => ?_
  have hN := npos h0
  constructor
  · have : c / N * N = c := by grind
    rcases tot (-1) (c / N) with a | a
    · exact a
    · have := Rat.mul_nonneg (show 0 ≤ -1 - c / N by grind) (show (0:Rat) ≤ N by grind)
      have : c / N = -1 := by
        have : (-1 - c / N) * N = 0 := by grind
        grind
      grind
  · have : c / N * N = c := by grind
    rcases tot (c / N) 1 with a | a
    · exact a
    · have := Rat.mul_nonneg (show 0 ≤ c / N - 1 by grind) (show (0:Rat) ≤ N by grind)
      have : (c / N - 1) * N = 0 := by grind
      grind
theorem div_le_div {a b n : Rat} (h : a ≤ b) (hn : 0 < n) : a / n ≤ b / n := by
  have := Rat.mul_nonneg (show 0 ≤ b - a by grind) (show 0 ≤ n⁻¹ by have := Rat.inv_pos.mpr hn; grind)
  grind

theorem LO.mono {r s p q : Rat} (h : LO r p) (hr : s ≤ r) (hq : p ≤ q) : LO s q := fun d hd =>
  ((h d hd).and (div_small (c := s - d))).mono fun N h0 g => by
    have hN := npos h0
    have a := div_le_div (show s - d ≤ r - d by grind) hN
    have b := pow_le_pow (show 0 ≤ 1 + (s - d) / N by grind) (show 1 + (s - d) / N ≤ 1 + (r - d) / N by grind) N
    grind
theorem UP.mono {r s p q : Rat} (h : UP r p) (hr : r ≤ s) (hq : q ≤ p) : UP s q := fun d hd =>
  ((h d hd).and (div_small (c := r + d))).mono fun N h0 g => by
    have hN := npos h0
    have a := div_le_div (show r + d ≤ s + d by grind) hN
    have b := pow_le_pow (show 0 ≤ 1 + (r + d) / N by grind) (show 1 + (r + d) / N ≤ 1 + (s + d) / N by grind) N
    grind
theorem LO.lim {r q : Rat} (h : ∀ e : Rat, 0 < e → LO (r - e) q) : LO r q := fun d hd =>
  (h (d / 2) (by grind) (d / 2) (by grind)).mono fun N _ g => by
    have : r - d / 2 - d / 2 = r - d := by grind
    rw [this] at g
    exact g
theorem UP.lim {r q : Rat} (h : ∀ e : Rat, 0 < e → UP (r + e) q) : UP r q := fun d hd =>
  (h (d / 2) (by grind) (d / 2) (by grind)).mono fun N _ g => by
    have : r + d / 2 + d / 2 = r + d := by grind
    rw [this] at g
    exact g
theorem LO.le {r s q : Rat} (h : LO r q) (g : UP s q) : r ≤ s := by
  rcases tot r s with a | a
  · exact a
  rcases Rat.le_iff_lt_or_eq.mp a with a | a
  · exfalso
    let d := (r - s) / 4
    have hd : 0 < d := by grind
    obtain ⟨N, h0, ⟨x, y⟩, ⟨z, _⟩⟩ := (((h d hd).and (g d hd)).and (div_small (c := s + d))).some
    have hN := npos h0
    have hlt : (s + d) / N < (r - d) / N := by
      have := Rat.mul_pos (show 0 < (r - d) - (s + d) by grind) (Rat.inv_pos.mpr hN)
      grind
    have := pow_lt_pow (show 0 ≤ 1 + (s + d) / N by grind) (show 1 + (s + d) / N < 1 + (r - d) / N by grind) N h0
    grind
  · grind
/-- strictly apart bounds part the numbers -/
theorem lt_of {r s p q : Rat} (h : UP r p) (g : LO s q) (hrs : r < s) : p < q := by
  rcases tot q p with a | a
  · have := (g.mono (Rat.le_refl) a).le h
    grind
  · rcases Rat.le_iff_lt_or_eq.mp a with a | a
    · exact a
    · subst a
      have := g.le h
      grind
theorem sq_small {c e : Rat} (he : 0 < e) : Ev fun N => -e ≤ c / N ∧ c / N ≤ e := by
  refine (div_small (c := c / e)).mono fun N h0 h => ?_
  have hN := npos h0
  have e1 : c / N = (c / e / N) * e := by grind
  have a := Rat.mul_nonneg (show 0 ≤ c / e / N + 1 by grind) (show 0 ≤ e by grind)
  have b := Rat.mul_nonneg (show 0 ≤ 1 - c / e / N by grind) (show 0 ≤ e by grind)
  grind
theorem LO.mul {r s p q : Rat} (h : LO r p) (g : LO s q) (hq : 0 < q) : LO (r + s) (p * q) := fun d hd => by
  have hd3 : 0 < d / 3 := by grind
  refine ((((h _ hd3).and (g _ hd3)).and ((div_small (c := r - d / 3)).and (div_small (c := s - d / 3)))).and ((div_small (c := r + s - d)).and (sq_small (c := (r - d / 3) * (s - d / 3)) hd3))).mono fun N h0 k => ?_
  obtain ⟨⟨⟨a, b⟩, ⟨c1, _⟩, ⟨c2, _⟩⟩, ⟨c3, _⟩, c4, _⟩ := k
  have hN := npos h0
  have key : 1 + (r + s - d) / N ≤ (1 + (r - d / 3) / N) * (1 + (s - d / 3) / N) := by
    have x := div_le_div (show -(d/3) ≤ (r - d / 3) * (s - d / 3) / N by grind) hN
    grind
  have m := pow_le_pow (show 0 ≤ 1 + (r + s - d) / N by grind) key N
  rw [mul_pow] at m
  have := mul_le_mul a b (pow_nonneg (by grind) N) (by grind)
  grind
theorem UP.mul {r s p q : Rat} (h : UP r p) (g : UP s q) (hp : 0 < p) : UP (r + s) (p * q) := fun d hd => by
  have hd3 : 0 < d / 3 := by grind
  refine ((((h _ hd3).and (g _ hd3)).and ((div_small (c := r + d / 3)).and (div_small (c := s + d / 3)))).and (sq_small (c := (r + d / 3) * (s + d / 3)) hd3)).mono fun N h0 k => ?_
  obtain ⟨⟨⟨a, b⟩, ⟨c1, _⟩, ⟨c2, _⟩⟩, _, c4⟩ := k
  have hN := npos h0
  have key : (1 + (r + d / 3) / N) * (1 + (s + d / 3) / N) ≤ 1 + (r + s + d) / N := by
    have x := div_le_div (show (r + d / 3) * (s + d / 3) / N ≤ d / 3 by grind) hN
    grind
  have m := pow_le_pow (Rat.mul_nonneg (show 0 ≤ 1 + (r + d / 3) / N by grind) (show 0 ≤ 1 + (s + d / 3) / N by grind)) key N
  rw [mul_pow] at m
  have := mul_le_mul a b (by grind) (pow_nonneg (show 0 ≤ 1 + (s + d / 3) / N by grind) N)
  grind
theorem UP.base {t : Rat} : UP t (1 + t) := fun d hd => by
  refine (div_small (c := t + d)).mono fun N h0 k => ?_
  have hN := npos h0
  have := bern k.1 N
  have e : (N : Rat) * ((t + d) / N) = t + d := by grind
  grind
theorem LO.base {t : Rat} (ht : -1 < t) : LO (t / (1 + t)) (1 + t) := fun d hd => by
  refine (div_small (c := t / (1 + t) - d)).mono fun N h0 k => ?_
  have hN := npos h0
  have hp : 0 < 1 + t := by grind
  have b := bern (x := -((t / (1 + t) - d) / N)) (by grind) N
  have e : (N : Rat) * (-((t / (1 + t) - d) / N)) = -(t / (1 + t) - d) := by grind
  rw [e] at b
  have e2 : 1 - t / (1 + t) = 1 / (1 + t) := by grind
  have m : ((1 + (t / (1 + t) - d) / N) * (1 + -((t / (1 + t) - d) / N))) ^ N ≤ 1 ^ N := by
    refine pow_le_pow (Rat.mul_nonneg (by grind) (by grind)) ?_ N
    have : 0 ≤ ((t / (1 + t) - d) / N) * ((t / (1 + t) - d) / N) := by
      generalize (t / (1 + t) - d) / N = x
      rcases tot 0 x with a | a
      · exact Rat.mul_nonneg a a
      · have := Rat.mul_nonneg (show 0 ≤ -x by grind) (show 0 ≤ -x by grind); grind
    grind
  rw [mul_pow, one_pow] at m
  have hP : 0 ≤ (1 + (t / (1 + t) - d) / N) ^ N := pow_nonneg (by grind) N
  have m2 := Rat.mul_le_mul_of_nonneg_left (show 1 / (1 + t) ≤ (1 + -((t / (1 + t) - d) / N)) ^ N by grind) hP
  generalize (1 + (t / (1 + t) - d) / N) ^ N = P at *
  have m3 := Rat.mul_le_mul_of_nonneg_left (show P * (1 / (1 + t)) ≤ 1 by grind) (show 0 ≤ 1 + t by grind)
  have e4 : (1 + t) * (P * (1 / (1 + t))) = P := by grind
  rw [e4] at m3
  show P ≤ 1 + t
  grind
end Lg

namespace Lg
theorem LO.inv {s q : Rat} (h : LO s q) (hq : 0 < q) : UP (-s) (1 / q) := fun d hd => by
  have hd2 : 0 < d / 2 := by grind
  refine ((h _ hd2).and ((div_small (c := s - d / 2)).and ((div_small (c := -s + d)).and (sq_small (c := (s - d / 2) * (-s + d)) hd2)))).mono fun N h0 k => ?_
  obtain ⟨a, ⟨c1, _⟩, ⟨c2, _⟩, c3, _⟩ := k
  have hN := npos h0
  have key : 1 ≤ (1 + (s - d / 2) / N) * (1 + (-s + d) / N) := by
    have x := div_le_div (show -(d/2) ≤ (s - d / 2) * (-s + d) / N by grind) hN
    grind
  have m := pow_le_pow (show (0 : Rat) ≤ 1 by decide) key N
  rw [mul_pow, one_pow] at m
  have hX : 0 ≤ (1 + (-s + d) / N) ^ N := pow_nonneg (by grind) N
  generalize (1 + (-s + d) / N) ^ N = X at *
  have m2 := Rat.mul_le_mul_of_nonneg_left a hX
  have m3 : 1 ≤ q * X := by grind
  have m4 := Rat.mul_le_mul_of_nonneg_left m3 (show 0 ≤ 1 / q by have := Rat.inv_pos.mpr hq; grind)
  have e : 1 / q * (q * X) = X := by grind
  show 1 / q ≤ X
  grind
theorem UP.inv {s q : Rat} (h : UP s q) (hq : 0 < q) : LO (-s) (1 / q) := fun d hd => by
  have hd2 : 0 < d / 2 := by grind
  refine ((h _ hd2).and ((div_small (c := s + d / 2)).and ((div_small (c := -s - d)).and (sq_small (c := (s + d / 2) * (-s - d)) hd2)))).mono fun N h0 k => ?_
  obtain ⟨a, ⟨c1, _⟩, ⟨c2, _⟩, _, c3⟩ := k
  have hN := npos h0
  have key : (1 + (s + d / 2) / N) * (1 + (-s - d) / N) ≤ 1 := by
    have x := div_le_div (show (s + d / 2) * (-s - d) / N ≤ d / 2 by grind) hN
    grind
  have m := pow_le_pow (Rat.mul_nonneg (show 0 ≤ 1 + (s + d / 2) / N by grind) (show 0 ≤ 1 + (-s - d) / N by grind)) key N
  rw [mul_pow, one_pow] at m
  have hX : 0 ≤ (1 + (-s - d) / N) ^ N := pow_nonneg (by grind) N
  generalize (1 + (-s - d) / N) ^ N = X at *
  have m2 := Rat.mul_le_mul_of_nonneg_left a hX
  have m3 : q * X ≤ 1 := by grind
  have m4 := Rat.mul_le_mul_of_nonneg_left m3 (show 0 ≤ 1 / q by have := Rat.inv_pos.mpr hq; grind)
  have e : 1 / q * (q * X) = X := by grind
  show X ≤ 1 / q
  grind
theorem LO.one : LO 0 1 := by
  have := LO.base (t := 0) (by decide)
  rwa [show (0 : Rat) / (1 + 0) = 0 from by grind, show (1 : Rat) + 0 = 1 from by grind] at this
theorem UP.one : UP 0 1 := by
  have := UP.base (t := 0)
  rwa [show (1 : Rat) + 0 = 1 from by grind] at this
theorem LO.pow {r q : Rat} (h : LO r q) (hq : 0 < q) (n : Nat) : LO (n * r) (q ^ n) := by
  induction n with
  | zero => simpa [Rat.pow_zero] using LO.one
  | succ n ih =>
    have := ih.mul h hq
    rw [Rat.pow_succ]
    refine this.mono ?_ (Rat.le_refl)
    have e : ((n + 1 : Nat) : Rat) = (n : Rat) + 1 := by push_cast; rfl
    grind
theorem UP.pow {r q : Rat} (h : UP r q) (hq : 0 < q) (n : Nat) : UP (n * r) (q ^ n) := by
  induction n with
  | zero => simpa [Rat.pow_zero] using UP.one
  | succ n ih =>
    have := ih.mul h (pow_pos hq n)
    rw [Rat.pow_succ]
    refine this.mono ?_ (Rat.le_refl)
    have e : ((n + 1 : Nat) : Rat) = (n : Rat) + 1 := by push_cast; rfl
    grind

/-- the sum of the first T rows of log (1 + u) -/
def P (u : Rat) : Nat → Rat
  | 0 => 0
  | T + 1 => P u T - (-u) ^ (T + 1) / ((T + 1 : Nat) : Rat)
/-- the geometric sum, its derivative -/
def G (u : Rat) : Nat → Rat
  | 0 => 0
  | T + 1 => G u T + (-u) ^ T
theorem G_eq (u : Rat) (T : Nat) : G u T * (1 + u) = 1 - (-u) ^ T := by
  induction T with
  | zero => simp [G, Rat.pow_zero]; grind
  | succ T ih => rw [G, Rat.pow_succ]; grind
theorem ratAbs {x : Rat} : 0 ≤ x * x := by
  rcases tot 0 x with a | a
  · exact Rat.mul_nonneg a a
  · have := Rat.mul_nonneg (show 0 ≤ -x by grind) (show 0 ≤ -x by grind); grind
/-- |x| ≤ c, written out -/
def Ab (x c : Rat) : Prop := -c ≤ x ∧ x ≤ c
theorem Ab.mul {x y c d : Rat} (h : Ab x c) (g : Ab y d) : Ab (x * y) (c * d) := by
  obtain ⟨h1, h2⟩ := h
  obtain ⟨g1, g2⟩ := g
  have a := Rat.mul_nonneg (show 0 ≤ c - x by grind) (show 0 ≤ d - y by grind)
  have b := Rat.mul_nonneg (show 0 ≤ c + x by grind) (show 0 ≤ d + y by grind)
  have e := Rat.mul_nonneg (show 0 ≤ c - x by grind) (show 0 ≤ d + y by grind)
  have f := Rat.mul_nonneg (show 0 ≤ c + x by grind) (show 0 ≤ d - y by grind)
  constructor <;> grind
theorem Ab.pow {x c : Rat} (h : Ab x c) (n : Nat) : Ab (x ^ n) (c ^ n) := by
  induction n with
  | zero => rw [Rat.pow_zero, Rat.pow_zero]; constructor <;> decide
  | succ n ih => rw [Rat.pow_succ, Rat.pow_succ]; exact ih.mul h
theorem Ab.add {x y c d : Rat} (h : Ab x c) (g : Ab y d) : Ab (x + y) (c + d) := by
  obtain ⟨h1, h2⟩ := h
  obtain ⟨g1, g2⟩ := g
  constructor <;> grind
theorem Ab.neg {x c : Rat} (h : Ab x c) : Ab (-x) c := by
  obtain ⟨h1, h2⟩ := h
  constructor <;> grind
theorem Ab.le {x c d : Rat} (h : Ab x c) (g : c ≤ d) : Ab x d := by
  obtain ⟨h1, h2⟩ := h
  constructor <;> grind
/-- a power's chord against its slope -/
theorem chord {t h : Rat} (ht : Ab t 1) (hs : Ab (t + h) 1) (k : Nat) : Ab ((t + h) ^ (k + 1) - t ^ (k + 1) - ((k + 1 : Nat) : Rat) * h * t ^ k) (((k + 1 : Nat) : Rat) * k * (h * h)) := by
  induction k with
  | zero =>
    simp only [Rat.pow_succ, Rat.pow_zero]
    have e : (t + h - t) - ((0 + 1 : Nat) : Rat) * h * 1 = 0 := by grind
    constructor <;> grind
  | succ k ih =>
    have hk : (0 : Rat) ≤ k := by exact_mod_cast Nat.zero_le k
    have e1 : ((k + 1 : Nat) : Rat) = (k : Rat) + 1 := by push_cast; rfl
    have e2 : ((k + 1 + 1 : Nat) : Rat) = (k : Rat) + 2 := by push_cast; grind
    rw [e1] at ih ⊢
    rw [e2]
    have hh : 0 ≤ h * h := ratAbs
    have m1 := hs.mul ih
    have m2 : Ab (((k : Rat) + 1) * (h * h) * t ^ k) (((k : Rat) + 1) * (h * h)) := by
      have p1 : Ab (t ^ k) 1 := by have := ht.pow k; rwa [one_pow] at this
      have p0 : Ab (((k : Rat) + 1) * (h * h)) (((k : Rat) + 1) * (h * h)) := by
        have := Rat.mul_nonneg (show 0 ≤ (k : Rat) + 1 by grind) hh
        constructor <;> grind
      have := p0.mul p1
      rwa [Rat.mul_one] at this
    have m3 := m1.add m2
    have e3 : (t + h) ^ (k + 1 + 1) - t ^ (k + 1 + 1) - ((k : Rat) + 2) * h * t ^ (k + 1) = (t + h) * ((t + h) ^ (k + 1) - t ^ (k + 1) - ((k : Rat) + 1) * h * t ^ k) + ((k : Rat) + 1) * (h * h) * t ^ k := by
      rw [Rat.pow_succ (t + h) (k + 1), Rat.pow_succ t (k + 1), Rat.pow_succ t k]
      grind
    rw [e3]
    refine m3.le ?_
    have := Rat.mul_nonneg hk hh
    have := Rat.mul_nonneg (Rat.mul_nonneg hk hk) hh
    grind
/-- the rows' sum: its chord against its slope -/
theorem P_chord {t h : Rat} (ht : Ab t 1) (hs : Ab (t + h) 1) (T : Nat) : Ab (P (t + h) T - P t T - h * G t T) (T * T * (h * h)) := by
  induction T with
  | zero => simp only [P, G]; constructor <;> grind
  | succ T ih =>
    have c := chord (t := -t) (h := -h) (by exact ht.neg) (by have := hs.neg; have e : -(t + h) = -t + -h := by grind
                                                              rwa [e] at this) T
    have hT : (0 : Rat) < ((T + 1 : Nat) : Rat) := by exact_mod_cast Nat.succ_pos T
    have hT0 : (0 : Rat) ≤ (T : Rat) := by exact_mod_cast Nat.zero_le T
    have e1 : ((T + 1 : Nat) : Rat) = (T : Rat) + 1 := by push_cast; rfl
    have e0 : -t + -h = -(t + h) := by grind
    rw [e0] at c
    have hh : 0 ≤ h * h := ratAbs
    simp only [P, G]
    generalize (-(t + h)) ^ (T + 1) = X at *
    generalize (-t) ^ (T + 1) = Y at *
    generalize (-t) ^ T = Z at *
    generalize hn : ((T + 1 : Nat) : Rat) = n at *
    have i1 : Ab ((X - Y - n * -h * Z) / n) (T * (h * h)) := by
      obtain ⟨c1, c2⟩ := c
      have d1 := div_le_div c1 hT
      have d2 := div_le_div c2 hT
      have x1 : n * T * (-h * -h) / n = T * (h * h) := by grind
      have x2 : -(n * T * (-h * -h)) / n = -(T * (h * h)) := by grind
      rw [x1] at d2
      rw [x2] at d1
      exact ⟨d1, d2⟩
    have e4 : P (t + h) T - X / n - (P t T - Y / n) - h * (G t T + Z) = (P (t + h) T - P t T - h * G t T) + -((X - Y - n * -h * Z) / n) := by grind
    rw [e4]
    refine (ih.add i1.neg).le ?_
    have h9 := Rat.mul_nonneg hT0 hh
    have e6 : n * n * (h * h) = T * T * (h * h) + 2 * (T * (h * h)) + h * h := by rw [e1]; grind
    rw [e6]
    grind
end Lg

namespace Lg
theorem inv_le {p d : Rat} (hd : 0 < d) (h : d ≤ p) : 1 / p ≤ 1 / d := by
  have hp : 0 < p := by grind
  have a := Rat.mul_nonneg (show 0 ≤ p - d by grind) (show 0 ≤ (1 / p) * (1 / d) by
    have := Rat.inv_pos.mpr hp; have := Rat.inv_pos.mpr hd
    exact Rat.mul_nonneg (by grind) (by grind))
  have e : (p - d) * ((1 / p) * (1 / d)) = 1 / d - 1 / p := by grind
  grind
theorem inv_pos {p : Rat} (hp : 0 < p) : 0 < 1 / p := by have := Rat.inv_pos.mpr hp; grind
theorem Ab.inv {p d : Rat} (hd : 0 < d) (h : d ≤ p) : Ab (1 / p) (1 / d) := by
  have := inv_le hd h
  have := inv_pos (show 0 < p by grind)
  constructor <;> grind
theorem Ab.nn {x c : Rat} (h : Ab x c) : 0 ≤ c := by obtain ⟨a, b⟩ := h; grind
/-- one step of the way: what the rows' sum gains against the gain of the logarithm -/
theorem P_step {t h k c : Rat} (hc : c < 1) (ht : Ab t c) (hs : Ab (t + h) c) (hk : Ab h k) (T : Nat) :
    Ab (P (t + h) T - P t T - h / (1 + t)) (k * (c ^ T / (1 - c)) + T * T * (k * k)) ∧ Ab (h / (1 + t) - h / (1 + (t + h))) (k * k * (1 / (1 - c) * (1 / (1 - c)))) := by
  have h1 : 0 < 1 - c := by grind
  have c1 := P_chord (ht.le (by grind)) (hs.le (by grind)) T
  have hT0 : (0 : Rat) ≤ T * T := by
    have : (0 : Rat) ≤ (T : Rat) := by exact_mod_cast Nat.zero_le T
    exact Rat.mul_nonneg this this
  have p1 : 1 - c ≤ 1 + t := by obtain ⟨a, b⟩ := ht; grind
  have p2 : 1 - c ≤ 1 + (t + h) := by obtain ⟨a, b⟩ := hs; grind
  have i1 := Ab.inv h1 p1
  have i2 := Ab.inv h1 p2
  have g := G_eq t T
  have g2 : G t T = (1 - (-t) ^ T) * (1 / (1 + t)) := by grind
  constructor
  · have a := (hk.mul (ht.neg.pow T)).mul i1
    have hh := hk.mul hk
    have b : Ab (T * T * (h * h)) (T * T * (k * k)) := by
      have : Ab ((T : Rat) * T) (T * T) := ⟨by grind, by grind⟩
      exact this.mul hh
    have hh0 : 0 ≤ h * h := ratAbs
    have e : P (t + h) T - P t T - h / (1 + t) = (P (t + h) T - P t T - h * G t T) + -(h * (-t) ^ T * (1 / (1 + t))) := by rw [g2]; grind
    rw [e]
    have c2 : Ab (P (t + h) T - P t T - h * G t T) (T * T * (k * k)) := by
      refine c1.le ?_
      exact b.2
    refine (c2.add a.neg).le ?_
    grind
  · have a := (hk.mul hk).mul (i1.mul i2)
    have e : h / (1 + t) - h / (1 + (t + h)) = h * h * (1 / (1 + t) * (1 / (1 + (t + h)))) := by
      have x1 : (1 + t) ≠ 0 := by grind
      have x2 : (1 + (t + h)) ≠ 0 := by grind
      grind
    rw [e]
    exact a
theorem LO.step {t h : Rat} (h1 : 0 < 1 + t) (h2 : 0 < 1 + (t + h)) {r : Rat} (g : LO r (1 + t)) : LO (r + h / (1 + (t + h))) (1 + (t + h)) := by
  have b := LO.base (t := h / (1 + t)) (by
    have e : h / (1 + t) + 1 = (1 + (t + h)) * (1 / (1 + t)) := by grind
    have := Rat.mul_pos h2 (inv_pos h1)
    grind)
  have e1 : 1 + h / (1 + t) = (1 + (t + h)) * (1 / (1 + t)) := by grind
  have hp := Rat.mul_pos h2 (inv_pos h1)
  have m := g.mul b (by grind)
  refine m.mono ?_ ?_
  · have : h / (1 + t) / (1 + h / (1 + t)) = h / (1 + (t + h)) := by
      rw [e1]
      have x1 : (1 + t) ≠ 0 := by grind
      have x2 : (1 + (t + h)) ≠ 0 := by grind
      grind
    grind
  · have : (1 + t) * (1 + h / (1 + t)) = 1 + (t + h) := by
      have x1 : (1 + t) ≠ 0 := by grind
      grind
    grind
theorem UP.step {t h : Rat} (h1 : 0 < 1 + t) {r : Rat} (g : UP r (1 + t)) : UP (r + h / (1 + t)) (1 + (t + h)) := by
  have b := UP.base (t := h / (1 + t))
  have m := g.mul b h1
  refine m.mono (Rat.le_refl) ?_
  have : (1 + t) * (1 + h / (1 + t)) = 1 + (t + h) := by
    have x1 : (1 + t) ≠ 0 := by grind
    grind
  grind
theorem P_zero (T : Nat) : P 0 T = 0 := by
  induction T with
  | zero => rfl
  | succ T ih => rw [P, ih, Rat.pow_succ]; grind
theorem way {u c : Rat} (hc : c < 1) (hu : Ab u c) (T m : Nat) (hm : 0 < m) : ∀ i : Nat, i ≤ m →
    LO (P (i * (u / m)) T - i * (c / m * (c ^ T / (1 - c)) + T * T * (c / m * (c / m)) + c / m * (c / m) * (1 / (1 - c) * (1 / (1 - c))))) (1 + i * (u / m)) ∧
    UP (P (i * (u / m)) T + i * (c / m * (c ^ T / (1 - c)) + T * T * (c / m * (c / m)) + c / m * (c / m) * (1 / (1 - c) * (1 / (1 - c))))) (1 + i * (u / m)) := by
  have hm' := npos hm
  have hk : Ab (u / m) (c / m) := by
    obtain ⟨a, b⟩ := hu
    have := div_le_div a hm'
    have := div_le_div b hm'
    constructor <;> grind
  have inside : ∀ i : Nat, i ≤ m → Ab (i * (u / m)) c := by
    intro i hi
    have h1 : (i : Rat) ≤ m := Rat.natCast_le_natCast.mpr hi
    have h0 : (0 : Rat) ≤ i := by exact_mod_cast Nat.zero_le i
    have a : Ab (i : Rat) (m : Rat) := ⟨by grind, h1⟩
    have := a.mul hk
    have e : (m : Rat) * (c / m) = c := by grind
    rwa [e] at this
  intro i
  induction i with
  | zero =>
    intro _
    have e : ((0 : Nat) : Rat) * (u / m) = 0 := by grind
    rw [e, P_zero]
    have e2 : (1 : Rat) + 0 = 1 := by grind
    rw [e2]
    constructor
    · refine LO.one.mono ?_ (Rat.le_refl); grind
    · refine UP.one.mono ?_ (Rat.le_refl); grind
  | succ i ih =>
    intro hi
    obtain ⟨l, p⟩ := ih (by omega)
    have ht := inside i (by omega)
    have hs := inside (i + 1) hi
    have e1 : ((i + 1 : Nat) : Rat) = (i : Rat) + 1 := by push_cast; rfl
    have e2 : ((i + 1 : Nat) : Rat) * (u / m) = i * (u / m) + u / m := by rw [e1]; grind
    rw [e2] at hs ⊢
    rw [e1]
    generalize (i : Rat) * (u / m) = t at *
    generalize u / m = h at *
    have hp1 : 0 < 1 + t := by obtain ⟨a, b⟩ := ht; grind
    have hp2 : 0 < 1 + (t + h) := by obtain ⟨a, b⟩ := hs; grind
    obtain ⟨⟨s1, s2⟩, ⟨s3, s4⟩⟩ := P_step hc ht hs hk T
    have n1 : 0 ≤ c / m * (c / m) * (1 / (1 - c) * (1 / (1 - c))) := by
      exact (hk.mul hk).nn |> fun x => Rat.mul_nonneg x ratAbs
    constructor
    · refine (l.step hp1 hp2).mono ?_ (Rat.le_refl)
      grind
    · refine (p.step hp1).mono ?_ (Rat.le_refl)
      grind
theorem lim_aux {C e : Rat} (he : 0 < e) : ∃ m : Nat, 0 < m ∧ C / m ≤ e := by
  obtain ⟨N, h0, h⟩ := (sq_small (c := C) he).some
  exact ⟨N, h0, h.2⟩
theorem LO.rows {u c : Rat} (hc : c < 1) (hu : Ab u c) (T : Nat) : LO (P u T - c ^ (T + 1) / (1 - c)) (1 + u) := by
  refine LO.lim fun e he => ?_
  obtain ⟨m, hm, h⟩ := lim_aux (C := c * c * (T * T + (1 / (1 - c) * (1 / (1 - c))))) he
  have w := (way hc hu T m hm m (Nat.le_refl m)).1
  have hm' := npos hm
  have e1 : (m : Rat) * (u / m) = u := by grind
  rw [e1] at w
  refine w.mono ?_ (Rat.le_refl)
  have e2 : (m : Rat) * (c / m * (c ^ T / (1 - c)) + T * T * (c / m * (c / m)) + c / m * (c / m) * (1 / (1 - c) * (1 / (1 - c)))) = c * (c ^ T / (1 - c)) + c * c * (T * T + (1 / (1 - c) * (1 / (1 - c)))) / m := by
    have : (m : Rat) * (c / m) = c := by grind
    grind
  have e3 : c ^ (T + 1) / (1 - c) = c * (c ^ T / (1 - c)) := by rw [Rat.pow_succ]; grind
  rw [e2, e3]
  grind
theorem UP.rows {u c : Rat} (hc : c < 1) (hu : Ab u c) (T : Nat) : UP (P u T + c ^ (T + 1) / (1 - c)) (1 + u) := by
  refine UP.lim fun e he => ?_
  obtain ⟨m, hm, h⟩ := lim_aux (C := c * c * (T * T + (1 / (1 - c) * (1 / (1 - c))))) he
  have w := (way hc hu T m hm m (Nat.le_refl m)).2
  have hm' := npos hm
  have e1 : (m : Rat) * (u / m) = u := by grind
  rw [e1] at w
  refine w.mono ?_ (Rat.le_refl)
  have e2 : (m : Rat) * (c / m * (c ^ T / (1 - c)) + T * T * (c / m * (c / m)) + c / m * (c / m) * (1 / (1 - c) * (1 / (1 - c)))) = c * (c ^ T / (1 - c)) + c * c * (T * T + (1 / (1 - c) * (1 / (1 - c)))) / m := by
    have : (m : Rat) * (c / m) = c := by grind
    grind
  have e3 : c ^ (T + 1) / (1 - c) = c * (c ^ T / (1 - c)) := by rw [Rat.pow_succ]; grind
  rw [e2, e3]
  grind
end Lg

namespace Lg
/-- powers of 9/11 (or of anything up to it) become small -/
theorem pow_small {c : Rat} (h0 : 0 ≤ c) (h1 : c ≤ 9 / 11) {e : Rat} (he : 0 < e) : ∃ n0 : Nat, ∀ n : Nat, n0 ≤ n → c ^ n ≤ e := by
  obtain ⟨m, hm⟩ := arch (1 / e * (9 / 2))
  refine ⟨m, fun n hn => ?_⟩
  have a := pow_le_pow h0 h1 n
  have b := bern (x := 2 / 9) (by grind) n
  have e1 : (1 + 2 / 9 : Rat) = 11 / 9 := by grind
  rw [e1] at b
  have e2 : (9 / 11 : Rat) ^ n * (11 / 9) ^ n = 1 := by rw [← mul_pow]; rw [show (9 / 11 : Rat) * (11 / 9) = 1 by grind, one_pow]
  have hmn : (m : Rat) ≤ n := Rat.natCast_le_natCast.mpr hn
  have p1 : (0 : Rat) ≤ (9 / 11) ^ n := pow_nonneg (by grind) n
  generalize (9 / 11 : Rat) ^ n = X at *
  generalize (11 / 9 : Rat) ^ n = Y at *
  have c1 : 1 / e ≤ Y := by grind
  have c2 := Rat.mul_le_mul_of_nonneg_left c1 p1
  have c3 := Rat.mul_le_mul_of_nonneg_left (show X * (1 / e) ≤ 1 by grind) (show 0 ≤ e by grind)
  have e4 : e * (X * (1 / e)) = X := by grind
  grind
/-- half of log ((1 + z) / (1 - z)), n rows -/
def A (z : Rat) : Nat → Rat
  | 0 => 0
  | n + 1 => A z n + z ^ (2 * n + 1) / ((2 * n + 1 : Nat) : Rat)
theorem neg_pow_odd (z : Rat) (n : Nat) : (-z) ^ (2 * n + 1) = -(z ^ (2 * n + 1)) := by
  induction n with
  | zero => simp [Rat.pow_succ, Rat.pow_zero]
  | succ n ih =>
    have e : 2 * (n + 1) + 1 = 2 * n + 1 + 1 + 1 := by omega
    rw [e, Rat.pow_succ (-z) (2 * n + 1 + 1), Rat.pow_succ (-z) (2 * n + 1), ih, Rat.pow_succ z (2 * n + 1 + 1), Rat.pow_succ z (2 * n + 1)]
    grind
theorem neg_pow_even (z : Rat) (n : Nat) : (-z) ^ (2 * n + 2) = z ^ (2 * n + 2) := by
  rw [Rat.pow_succ, neg_pow_odd, Rat.pow_succ z]
  grind
theorem A_eq (z : Rat) (n : Nat) : P z (2 * n) - P (-z) (2 * n) = 2 * A z n := by
  induction n with
  | zero => simp [P, A]; grind
  | succ n ih =>
    have e : 2 * (n + 1) = 2 * n + 1 + 1 := by omega
    rw [e, P, P, P, P, A]
    have e2 : -(-z) = z := by grind
    rw [e2, neg_pow_odd, neg_pow_even]
    grind
theorem rows2 {z : Rat} (h0 : 0 ≤ z) (h1 : z ≤ 9 / 11) (n : Nat) :
    LO (2 * A z n - 11 * (9 / 11) ^ (2 * n + 1)) ((1 + z) * (1 / (1 - z))) ∧ UP (2 * A z n + 11 * (9 / 11) ^ (2 * n + 1)) ((1 + z) * (1 / (1 - z))) := by
  have hz : Ab z (9 / 11) := ⟨by grind, h1⟩
  have l1 := LO.rows (by grind) hz (2 * n)
  have u1 := UP.rows (by grind) hz (2 * n)
  have l2 := LO.rows (by grind) hz.neg (2 * n)
  have u2 := UP.rows (by grind) hz.neg (2 * n)
  have hp : 0 < 1 - z := by grind
  have e1 : 1 + -z = 1 - z := by grind
  rw [e1] at l2 u2
  have a := A_eq z n
  have hi := inv_pos hp
  generalize (9 / 11 : Rat) ^ (2 * n + 1) = X at *
  constructor
  · refine (l1.mul (u2.inv hp) hi).mono ?_ (Rat.le_refl)
    grind
  · refine (u1.mul (l2.inv hp) (by grind)).mono ?_ (Rat.le_refl)
    grind
theorem A_mono {z : Rat} (h0 : 0 ≤ z) (n i : Nat) : A z n ≤ A z (n + i) := by
  induction i with
  | zero => exact Rat.le_refl
  | succ i ih =>
    rw [← Nat.add_assoc, A]
    have := Rat.mul_nonneg (pow_nonneg h0 (2 * (n + i) + 1)) (show 0 ≤ 1 / ((2 * (n + i) + 1 : Nat) : Rat) by have := inv_pos (npos (show 0 < 2 * (n + i) + 1 by omega)); grind)
    grind
def tail (z : Rat) (n : Nat) : Rat := z ^ (2 * n + 1) * (1 / ((2 * n + 1 : Nat) : Rat)) * (1 / (1 - z * z))
theorem A_tail {z : Rat} (h0 : 0 ≤ z) (h1 : z ≤ 9 / 11) (n i : Nat) : A z (n + i) + tail z (n + i) ≤ A z n + tail z n := by
  induction i with
  | zero => exact Rat.le_refl
  | succ i ih =>
    refine Rat.le_trans ?_ ih
    rw [← Nat.add_assoc]
    generalize n + i = m
    unfold tail
    rw [A]
    have e : 2 * (m + 1) + 1 = 2 * m + 1 + 1 + 1 := by omega
    rw [e, Rat.pow_succ z (2 * m + 1 + 1), Rat.pow_succ z (2 * m + 1)]
    have hX : 0 ≤ z ^ (2 * m + 1) := pow_nonneg h0 _
    have hk := npos (show 0 < 2 * m + 1 by omega)
    have hk2 : ((2 * m + 1 : Nat) : Rat) ≤ ((2 * m + 1 + 1 + 1 : Nat) : Rat) := Rat.natCast_le_natCast.mpr (by omega)
    have i1 := inv_le hk hk2
    generalize z ^ (2 * m + 1) = X at *
    have hzz : z * z ≤ 9 / 11 * (9 / 11) := mul_le_mul h1 h1 h0 (by grind)
    have hp : 0 < 1 - z * z := by grind
    have hi := inv_pos hp
    have n1 := Rat.mul_nonneg (Rat.mul_nonneg (Rat.mul_nonneg hX (Rat.mul_nonneg h0 h0)) (show 0 ≤ 1 / (1 - z * z) by grind)) (show 0 ≤ 1 / ((2 * m + 1 : Nat) : Rat) - 1 / ((2 * m + 1 + 1 + 1 : Nat) : Rat) by grind)
    generalize 1 / ((2 * m + 1 + 1 + 1 : Nat) : Rat) = k2 at *
    have ek : X / ((2 * m + 1 : Nat) : Rat) = X * (1 / ((2 * m + 1 : Nat) : Rat)) := by grind
    rw [ek]
    generalize 1 / ((2 * m + 1 : Nat) : Rat) = k1 at *
    have ep : 1 + (z * z) * (1 / (1 - z * z)) = 1 / (1 - z * z) := by grind
    generalize 1 / (1 - z * z) = w at *
    have e5 : X * k1 * w = X * k1 * (1 + z * z * w) := by rw [ep]
    rw [e5]
    grind
theorem LO.A {z : Rat} (h0 : 0 ≤ z) (h1 : z ≤ 9 / 11) (n : Nat) : LO (2 * A z n) ((1 + z) * (1 / (1 - z))) := by
  refine LO.lim fun e he => ?_
  obtain ⟨m, hm⟩ := pow_small (c := 9 / 11) (by grind) (by grind) (e := e / 11) (by grind)
  have w := (rows2 h0 h1 (n + m)).1
  refine w.mono ?_ (Rat.le_refl)
  have := hm (2 * (n + m) + 1) (by omega)
  have := A_mono h0 n m
  grind
theorem tail_nonneg {z : Rat} (h0 : 0 ≤ z) (h1 : z ≤ 9 / 11) (n : Nat) : 0 ≤ tail z n := by
  have hzz : z * z ≤ 9 / 11 * (9 / 11) := mul_le_mul h1 h1 h0 (by grind)
  have hi := inv_pos (show 0 < 1 - z * z by grind)
  have := inv_pos (npos (show 0 < 2 * n + 1 by omega))
  exact Rat.mul_nonneg (Rat.mul_nonneg (pow_nonneg h0 _) (by grind)) (by grind)
theorem UP.A {z : Rat} (h0 : 0 ≤ z) (h1 : z ≤ 9 / 11) (n : Nat) : UP (2 * (A z n + tail z n)) ((1 + z) * (1 / (1 - z))) := by
  refine UP.lim fun e he => ?_
  obtain ⟨m, hm⟩ := pow_small (c := 9 / 11) (by grind) (by grind) (e := e / 11) (by grind)
  have w := (rows2 h0 h1 (n + m)).2
  refine w.mono ?_ (Rat.le_refl)
  have := hm (2 * (n + m) + 1) (by omega)
  have := A_tail h0 h1 n m
  have := tail_nonneg h0 h1 (n + m)
  grind
end Lg

namespace Lg
/-- the rows of the law's own logarithm -/
def pw (a b unit : Int) : Nat → Int
  | 0 => (unit * (a - b)).fdiv (a + b)
  | j + 1 => (pw a b unit j * (a - b) ^ 2).fdiv ((a + b) ^ 2)
def lows (a b unit : Int) : Nat → Int
  | 0 => 0
  | j + 1 => lows a b unit j + (pw a b unit j).fdiv (2 * j + 1)

theorem fdiv_b {a b : Int} (hb : 0 < b) : b * a.fdiv b ≤ a ∧ a ≤ b * a.fdiv b + (b - 1) := by
  rw [Int.fdiv_eq_ediv_of_nonneg _ (by omega)]
  have h1 := Int.mul_ediv_add_emod a b
  have h2 := Int.emod_nonneg a (show b ≠ 0 by omega)
  have h3 := Int.emod_lt_of_pos a hb
  omega
theorem cle {a b : Int} (h : a ≤ b) : (a : Rat) ≤ (b : Rat) := Rat.intCast_le_intCast.mpr h
theorem clt {a b : Int} (h : a < b) : (a : Rat) < (b : Rat) := Rat.intCast_lt_intCast.mpr h
theorem fdiv_r {a b : Int} (hb : 0 < b) : (b : Rat) * (a.fdiv b : Int) ≤ a ∧ (a : Rat) ≤ b * (a.fdiv b : Int) + (b - 1) := by
  obtain ⟨h1, h2⟩ := fdiv_b (a := a) hb
  have := cle h1
  have := cle h2
  push_cast at *
  constructor <;> grind
theorem le_of_mul {b x y : Rat} (hb : 0 < b) (h : b * x ≤ b * y) : x ≤ y := by
  rcases tot x y with a | a
  · exact a
  · have m := Rat.mul_le_mul_of_nonneg_left a (show 0 ≤ b by grind)
    have e : b * x = b * y := by grind
    have : x = y := by
      have i := inv_pos hb
      have : 1 / b * (b * x) = 1 / b * (b * y) := by rw [e]
      grind
    grind
section
variable {a b unit : Int} (hb : 0 < b) (hab : b ≤ a) (h10 : a ≤ 10 * b) (hu : 0 < unit)
include hb hab h10 hu
/-- z of the law -/
theorem z_facts : (0 : Rat) ≤ ((a - b : Int) : Rat) / ((a + b : Int) : Rat) ∧ ((a - b : Int) : Rat) / ((a + b : Int) : Rat) ≤ 9 / 11 ∧ (1 + ((a - b : Int) : Rat) / ((a + b : Int) : Rat)) * (1 / (1 - ((a - b : Int) : Rat) / ((a + b : Int) : Rat))) = (a : Rat) / b := by
  have h1 : (0 : Rat) < b := clt (a := 0) hb
  have h2 := cle hab
  have h3 := cle h10
  push_cast at *
  have hs : (0 : Rat) < (a : Rat) + b := by grind
  have hi := inv_pos hs
  refine ⟨?_, ?_, ?_⟩
  · have := Rat.mul_nonneg (show (0 : Rat) ≤ (a : Rat) - b by grind) (show 0 ≤ 1 / ((a : Rat) + b) by grind)
    grind
  · refine le_of_mul hs ?_
    have : ((a : Rat) + b) * (((a : Rat) - b) / ((a : Rat) + b)) = (a : Rat) - b := by grind
    grind
  · have x1 : ((a : Rat) + b) ≠ 0 := by grind
    have x2 : 1 - ((a : Rat) - b) / ((a : Rat) + b) = 2 * b / ((a : Rat) + b) := by grind
    have x3 : 1 + ((a : Rat) - b) / ((a : Rat) + b) = 2 * a / ((a : Rat) + b) := by grind
    rw [x2, x3]
    grind
theorem pw_nonneg (j : Nat) : 0 ≤ pw a b unit j := by
  induction j with
  | zero =>
    rw [pw, Int.fdiv_eq_ediv_of_nonneg _ (by omega)]
    exact Int.ediv_nonneg (Int.mul_nonneg (by omega) (by omega)) (by omega)
  | succ j ih =>
    have h2 : 0 ≤ (a + b) ^ 2 := by rw [Int.pow_succ, Int.pow_succ, Int.pow_zero, Int.one_mul]; exact Int.mul_nonneg (by omega) (by omega)
    have h3 : 0 ≤ (a - b) ^ 2 := by rw [Int.pow_succ, Int.pow_succ, Int.pow_zero, Int.one_mul]; exact Int.mul_nonneg (by omega) (by omega)
    rw [pw, Int.fdiv_eq_ediv_of_nonneg _ h2]
    exact Int.ediv_nonneg (Int.mul_nonneg ih h3) h2
theorem pw_bounds (j : Nat) : ((pw a b unit j : Int) : Rat) ≤ unit * (((a - b : Int) : Rat) / ((a + b : Int) : Rat)) ^ (2 * j + 1) ∧ unit * (((a - b : Int) : Rat) / ((a + b : Int) : Rat)) ^ (2 * j + 1) ≤ (pw a b unit j : Int) + (if j = 0 then 1 else 121 / 40) := by
  obtain ⟨z0, z1, _⟩ := z_facts hb hab h10 hu
  have hs : 0 < a + b := by omega
  have hsr := clt (a := 0) hs
  generalize hz : ((a - b : Int) : Rat) / ((a + b : Int) : Rat) = z at *
  have ez : ((a + b : Int) : Rat) * z = ((a - b : Int) : Rat) := by rw [← hz]; push_cast at *; grind
  induction j with
  | zero =>
    have f := fdiv_r (a := unit * (a - b)) hs
    rw [pw]
    simp only [Nat.mul_zero, Nat.zero_add, if_true]
    have e1 : (z : Rat) ^ 1 = z := by rw [Rat.pow_succ, Rat.pow_zero]; grind
    rw [e1]
    generalize ((unit * (a - b)).fdiv (a + b) : Int) = q at *
    have e2 : ((unit * (a - b) : Int) : Rat) = unit * (((a + b : Int) : Rat) * z) := by rw [ez]; push_cast; rfl
    rw [e2] at f
    generalize ((a + b : Int) : Rat) = s at *
    constructor
    · refine le_of_mul hsr ?_; grind
    · refine le_of_mul hsr ?_; grind
  | succ j ih =>
    have hs2 : 0 < (a + b) ^ 2 := by rw [Int.pow_succ, Int.pow_succ, Int.pow_zero, Int.one_mul]; exact Int.mul_pos hs hs
    have f := fdiv_r (a := pw a b unit j * (a - b) ^ 2) hs2
    have e0 : 2 * (j + 1) + 1 = 2 * j + 1 + 1 + 1 := by omega
    rw [pw, e0, Rat.pow_succ z (2 * j + 1 + 1), Rat.pow_succ z (2 * j + 1)]
    generalize (pw a b unit j * (a - b) ^ 2).fdiv ((a + b) ^ 2) = q at *
    generalize z ^ (2 * j + 1) = X at *
    generalize pw a b unit j = p at *
    have e2 : ((p * (a - b) ^ 2 : Int) : Rat) = p * ((((a + b : Int) : Rat) * z) * (((a + b : Int) : Rat) * z)) := by
      rw [ez]; push_cast; grind
    have e3 : (((a + b) ^ 2 : Int) : Rat) = ((a + b : Int) : Rat) * ((a + b : Int) : Rat) := by push_cast; grind
    rw [e2, e3] at f
    have hss := Rat.mul_pos hsr hsr
    rw [if_neg (by omega)]
    generalize ((a + b : Int) : Rat) = s at *
    have hzz : z * z ≤ 81 / 121 := by have := mul_le_mul z1 z1 z0 (show (0:Rat) ≤ 9/11 by grind); grind
    have hz0 := Rat.mul_nonneg z0 z0
    have ih2 : unit * X ≤ (p : Rat) + 121 / 40 := by
      obtain ⟨_, i2⟩ := ih
      split at i2 <;> grind
    have m1 := Rat.mul_le_mul_of_nonneg_left ih.1 hz0
    have m2 := Rat.mul_le_mul_of_nonneg_left ih2 hz0
    constructor
    · refine le_of_mul hss ?_
      have m3 := Rat.mul_le_mul_of_nonneg_left m1 (show 0 ≤ s * s by grind)
      grind
    · have m4 : p * (z * z) ≤ q + 1 := by
        refine le_of_mul hss ?_
        grind
      grind
theorem lows_bounds (n : Nat) : ((lows a b unit n : Int) : Rat) ≤ unit * A (((a - b : Int) : Rat) / ((a + b : Int) : Rat)) n ∧ unit * A (((a - b : Int) : Rat) / ((a + b : Int) : Rat)) n ≤ (lows a b unit n : Int) + n * (121 / 40) := by
  induction n with
  | zero => simp only [lows, A]; constructor <;> grind
  | succ n ih =>
    have hk : (0 : Int) < 2 * n + 1 := by omega
    have f := fdiv_r (a := pw a b unit n) hk
    have p := pw_bounds hb hab h10 hu n
    have hkr := clt (a := 0) hk
    have ek : ((2 * n + 1 : Nat) : Rat) = (2 * n + 1 : Rat) := by push_cast; rfl
    have en : ((n + 1 : Nat) : Rat) = (n : Rat) + 1 := by push_cast; rfl
    simp only [lows, A]
    generalize (pw a b unit n).fdiv (2 * n + 1) = q at *
    generalize (((a - b : Int) : Rat) / ((a + b : Int) : Rat)) ^ (2 * n + 1) = X at *
    generalize A (((a - b : Int) : Rat) / ((a + b : Int) : Rat)) n = AA at *
    rw [ek, en]
    have p2 : unit * X ≤ (pw a b unit n : Int) + 121 / 40 := by
      obtain ⟨_, i2⟩ := p
      split at i2 <;> grind
    have hk1 : (0 : Rat) ≤ (n : Rat) := by exact_mod_cast Nat.zero_le n
    push_cast at *
    have w1 : (q : Rat) ≤ unit * (X / (2 * n + 1)) := by
      refine le_of_mul hkr ?_
      have : (2 * (n : Rat) + 1) * (unit * (X / (2 * n + 1))) = unit * X := by grind
      grind
    have w2 : unit * (X / (2 * n + 1)) ≤ q + 121 / 40 := by
      refine le_of_mul hkr ?_
      have : (2 * (n : Rat) + 1) * (unit * (X / (2 * n + 1))) = unit * X := by grind
      grind
    constructor <;> grind
/-- the law's own bounds hold -/
theorem law_LO (n : Nat) : LO ((2 * lows a b unit n : Int) / (unit : Rat)) ((a : Rat) / b) := by
  obtain ⟨z0, z1, ez⟩ := z_facts hb hab h10 hu
  have l := LO.A z0 z1 n
  rw [ez] at l
  refine l.mono ?_ (Rat.le_refl)
  have h := (lows_bounds hb hab h10 hu n).1
  have hur := clt (a := 0) hu
  refine le_of_mul hur ?_
  push_cast at *
  have : (unit : Rat) * (2 * (lows a b unit n : Rat) / unit) = 2 * (lows a b unit n : Rat) := by grind
  grind
theorem law_UP (n : Nat) (hn : pw a b unit n ≤ 0) : UP ((2 * lows a b unit n + 4 * (2 * n + 1) + 4 : Int) / (unit : Rat)) ((a : Rat) / b) := by
  obtain ⟨z0, z1, ez⟩ := z_facts hb hab h10 hu
  have l := UP.A z0 z1 n
  rw [ez] at l
  refine l.mono ?_ (Rat.le_refl)
  have h := (lows_bounds hb hab h10 hu n).2
  have p := (pw_bounds hb hab h10 hu n).2
  have hn' := cle hn
  have hur := clt (a := 0) hu
  refine le_of_mul hur ?_
  have e : (unit : Rat) * (((2 * lows a b unit n + 4 * (2 * n + 1) + 4 : Int) : Rat) / unit) = ((2 * lows a b unit n + 4 * (2 * n + 1) + 4 : Int) : Rat) := by grind
  rw [e]
  unfold tail
  generalize ((a - b : Int) : Rat) / ((a + b : Int) : Rat) = z at *
  have hzz : z * z ≤ 81 / 121 := by have := mul_le_mul z1 z1 z0 (show (0:Rat) ≤ 9/11 by grind); grind
  have i1 := inv_le (show (0 : Rat) < 40 / 121 by grind) (show 40 / 121 ≤ 1 - z * z by grind)
  have i0 := inv_pos (show 0 < 1 - z * z by grind)
  have hX := pow_nonneg z0 (2 * n + 1)
  have hk := npos (show 0 < 2 * n + 1 by omega)
  have hkI := inv_pos hk
  generalize A z n = AA at *
  generalize z ^ (2 * n + 1) = X at *
  generalize 1 / (1 - z * z) = w at *
  have hn0 : (0 : Rat) ≤ (n : Rat) := by exact_mod_cast Nat.zero_le n
  have t : unit * (X * (1 / ((2 * n + 1 : Nat) : Rat)) * w) ≤ 4 := by
    have hw : w ≤ 121 / 40 := by grind
    have hUX := Rat.mul_nonneg (show (0:Rat) ≤ unit by grind) hX
    by_cases h0 : n = 0
    · subst h0
      simp only [if_true, Nat.mul_zero, Nat.zero_add] at p ⊢
      have : (unit : Rat) * X ≤ 1 := by push_cast at hn'; grind
      have m := mul_le_mul this hw hUX (by grind)
      have e1 : (1 : Rat) / ((1 : Nat) : Rat) = 1 := by push_cast; grind
      rw [e1]
      grind
    · rw [if_neg h0] at p
      have : (unit : Rat) * X ≤ 121 / 40 := by push_cast at hn'; grind
      have m := mul_le_mul this hw hUX (by grind)
      have h3 : (3 : Rat) ≤ ((2 * n + 1 : Nat) : Rat) := by
        have : ((3 : Nat) : Rat) ≤ ((2 * n + 1 : Nat) : Rat) := Rat.natCast_le_natCast.mpr (by omega)
        push_cast at *
        grind
      have i3 := inv_le (show (0 : Rat) < 3 by grind) h3
      generalize 1 / ((2 * n + 1 : Nat) : Rat) = k at *
      have hUXw : 0 ≤ unit * X * w := Rat.mul_nonneg hUX (by grind)
      have m2 := mul_le_mul m i3 hUXw (by grind)
      grind
  push_cast
  grind
end
end Lg

namespace Lg
/-- what one halving of _ilog knows: K is 2 ** R -/
structure Halving (M K y ys s z : Int) : Prop where
  hM : 0 < M
  hK : 0 < K
  y1 : -K ≤ 2 * (K * ys - y)
  y2 : 2 * (K * ys - y) ≤ K
  s0 : 1 ≤ s
  s1 : s * s - s < M * (M + ys)
  s2 : M * (M + ys) ≤ s * s + s
  z1 : -(M + s) ≤ 2 * ((M + s) * z - 2 * (M * y))
  z2 : 2 * ((M + s) * z - 2 * (M * y)) ≤ M + s

theorem aux_b2 {m h ph kr th ee Di k : Rat} (mh : m * h = 1) : (2 * m * ph + 2 * kr * th - ee) * Di * k * h / 2 = h * ((ph + kr * th * h) * k * m * Di - ee * k * Di / 2) := by
  have e : h * ((ph + kr * th * h) * k * m * Di - ee * k * Di / 2) = h * m * ph * k * Di + (m * h) * (kr * th * h * k * Di) - ee * k * Di * h / 2 := by grind
  rw [e, mh]
  grind
/-- one halving in rationals: v = 1 + y / (K M), a = 1 + z / (2 K M), b = s / M -/
theorem Halving.rat {M K y ys s z : Int} (H : Halving M K y ys s z) {h k v a b : Rat} (eh : h = 1 / M) (ek : k = 1 / K) (ev : v = 1 + y * k * h) (ea : a = 1 + z * k * h / 2) (eb : b = s * h) : ∃ q e : Rat,
    (v = a * a + h * ((a - 1) * q - e * (a + b))) ∧ (b = a + h * (q - e)) ∧ Ab e (k / 4) ∧
    Ab (q * (1 + b)) (1 / 2 + b) ∧ (K * ys = y → Ab (q * (1 + b)) b) := by
  have hM := clt (a := 0) H.hM
  have hK := clt (a := 0) H.hK
  have hs := cle H.s0
  have y1 := cle H.y1
  have y2 := cle H.y2
  have s1 := clt H.s1
  have s2 := cle H.s2
  have z1 := cle H.z1
  have z2 := cle H.z2
  push_cast at *
  have hys : (K * ys = y → ((K : Rat) * ys - y = 0)) := by
    intro h
    have : ((K * ys : Int) : Rat) = ((y : Int) : Rat) := by rw [h]
    push_cast at this
    grind
  have hmI : 0 < h := by rw [eh]; exact inv_pos hM
  have hkI : 0 < k := by rw [ek]; exact inv_pos hK
  have mh : (M : Rat) * h = 1 := by grind
  have kk : (K : Rat) * k = 1 := by grind
  clear eh ek
  generalize (M : Rat) = m at *
  generalize (K : Rat) = kr at *
  generalize (y : Rat) = Y at *
  generalize (ys : Rat) = Ys at *
  generalize (s : Rat) = S at *
  generalize (z : Rat) = Z at *
  have hD : 0 < m + S := by grind
  have hDI := inv_pos hD
  have DD : (m + S) * (1 / (m + S)) = 1 := by grind
  generalize 1 / (m + S) = Di at *
  generalize hph : kr * Ys - Y = ph at *
  generalize hth : S * S - m * (m + Ys) = th at *
  generalize hee : (m + S) * Z - 2 * (m * Y) = ee at *
  have key2 : (2 * kr * (S - m) - Z) * (m + S) = 2 * m * ph + 2 * kr * th - ee := by
    rw [← hph, ← hth, ← hee]; grind
  have b0 : 2 * kr * (S - m) - Z = (2 * m * ph + 2 * kr * th - ee) * Di := by
    have : (2 * kr * (S - m) - Z) * ((m + S) * Di) = (2 * m * ph + 2 * kr * th - ee) * Di := by rw [← key2]; grind
    rw [DD] at this
    grind
  have y0 : Y = ((m + S) * Z - ee) * h / 2 := by
    have : 2 * (m * Y) = (m + S) * Z - ee := by grind
    have e2 : Y = (2 * (m * Y)) * h / 2 := by grind
    rw [e2, this]
  have q1 : (ph + kr * th * h) * k * m * Di * (1 + b) = (ph + kr * th * h) * k := by
    rw [eb]
    have : m * Di * (1 + S * h) = 1 := by grind
    have e : (ph + kr * th * h) * k * m * Di * (1 + S * h) = (ph + kr * th * h) * k * (m * Di * (1 + S * h)) := by grind
    rw [e, this]; grind
  have q2 : (ph + kr * th * h) * k = ph * k + th * h := by grind
  have ph2 : Ab (ph * k) (1 / 2) := by
    have a : Ab ph (kr / 2) := ⟨by grind, by grind⟩
    have b : Ab k k := ⟨by grind, by grind⟩
    refine (a.mul b).le ?_
    grind
  have th2 : Ab (th * h) b := by
    have t : Ab th S := ⟨by grind, by grind⟩
    have c : Ab h h := ⟨by grind, by grind⟩
    refine (t.mul c).le ?_
    grind
  refine ⟨(ph + kr * th * h) * k * m * Di, ee * k * Di / 2, ?_, ?_, ?_, ?_, ?_⟩
  · have b1 : b - a = (2 * m * ph + 2 * kr * th - ee) * Di * k * h / 2 := by
      rw [← b0, eb, ea]
      grind
    have v1 : v = 1 + ((m + S) * Z - ee) * h * k * h / 2 := by rw [ev, y0]; grind
    have v2 : v - a * a = Z * k * h / 2 * (b - a) - ee * k * h * h / 2 := by
      rw [v1, eb, ea]
      have e : (m + S) * h = 1 + S * h := by grind
      have e2 : ((m + S) * Z - ee) * h * k * h / 2 = ((m + S) * h) * Z * k * h / 2 - ee * k * h * h / 2 := by grind
      rw [e2, e]
      grind
    have a1 : a - 1 = Z * k * h / 2 := by rw [ea]; grind
    have b2 : b - a = h * ((ph + kr * th * h) * k * m * Di - ee * k * Di / 2) := by
      rw [b1]; exact aux_b2 mh
    have w : v - a * a = (a - 1) * (b - a) - ee * k * h * h / 2 := by rw [v2, a1]
    have d2 : h * h = h * Di * (1 + b) := by
      rw [eb]
      have : Di * (1 + S * h) = h := by
        have x1 : m * (Di * (1 + S * h)) = 1 := by grind
        have x2 : Di * (1 + S * h) = m * h * (Di * (1 + S * h)) := by rw [mh]; grind
        rw [x2]
        have x3 : m * h * (Di * (1 + S * h)) = h * (m * (Di * (1 + S * h))) := by grind
        rw [x3, x1]; grind
      have x : h * Di * (1 + S * h) = h * (Di * (1 + S * h)) := by grind
      rw [x, this]
    have w2 : ee * k * h * h / 2 = ee * k / 2 * (h * Di * (1 + b)) := by rw [← d2]; grind
    rw [w2] at w
    have w3 : (a - 1) * (b - a) = (a - 1) * (h * ((ph + kr * th * h) * k * m * Di - ee * k * Di / 2)) := by rw [b2]
    rw [w3] at w
    grind
  · have b1 : b - a = (2 * m * ph + 2 * kr * th - ee) * Di * k * h / 2 := by
      rw [← b0, eb, ea]
      grind
    have b2 : b - a = h * ((ph + kr * th * h) * k * m * Di - ee * k * Di / 2) := by
      rw [b1]; exact aux_b2 mh
    grind
  · have a : Ab ee ((m + S) / 2) := ⟨by grind, by grind⟩
    have b : Ab k k := ⟨by grind, by grind⟩
    have c : Ab Di Di := ⟨by grind, by grind⟩
    have d : Ab (1 / 2 : Rat) (1 / 2) := ⟨by grind, by grind⟩
    have r := ((a.mul b).mul c).mul d
    have e : ee * k * Di * (1 / 2) = ee * k * Di / 2 := by grind
    rw [e] at r
    refine r.le ?_
    have : (m + S) / 2 * k * Di * (1 / 2) = ((m + S) * Di) * k / 4 := by grind
    rw [this, DD]; grind
  · rw [q1, q2]; exact ph2.add th2
  · intro hh
    rw [q1, q2, hys hh]
    have : 0 * k + th * h = th * h := by grind
    rw [this]
    exact th2

/-- from the halved number back: the loss is at most E * h / K -/
theorem back {v a h kI X E : Rat} (ha : 0 < a) (hh : 0 < h) (hk : 0 < kI) (hE : 0 ≤ E) (d : Ab (v - a * a) (h * kI * X)) (hX : X * (1 + E * h * kI) ≤ E * (a * a)) :
    0 < v ∧ (∀ r, LO r a → LO (2 * r - E * h * kI) v) ∧ (∀ r, UP r a → UP (2 * r + E * h * kI) v) := by
  obtain ⟨d1, d2⟩ := d
  have hhk := Rat.mul_pos hh hk
  have hc0 := Rat.mul_nonneg hE (show 0 ≤ h * kI by grind)
  have hc : 0 < 1 + E * h * kI := by grind
  have haa := Rat.mul_pos ha ha
  have m := Rat.mul_le_mul_of_nonneg_left hX (show 0 ≤ h * kI by grind)
  generalize hg : E * h * kI = g at *
  have hX2 : h * kI * X * (1 + g) ≤ g * (a * a) := by
    have e : h * kI * (E * (a * a)) = g * (a * a) := by rw [← hg]; grind
    rw [e] at m
    grind
  generalize h * kI * X = x at *
  generalize hpp : a * a = p at *
  -- v ≥ p / (1 + g)
  have v1 : p ≤ v * (1 + g) := by
    have := Rat.mul_le_mul_of_nonneg_left (show p - x ≤ v by grind) (show 0 ≤ 1 + g by grind)
    grind
  have hv : 0 < v := by
    rcases tot v 0 with h | h
    · have := Rat.mul_nonneg (show 0 ≤ -v by grind) (show 0 ≤ 1 + g by grind)
      grind
    · rcases Rat.le_iff_lt_or_eq.mp h with h | h
      · exact h
      · subst h; grind
  have x0 : v - p ≤ g * p := by
    have hg0 : 0 ≤ g := by grind
    have xx : x ≤ g * p := by
      refine le_of_mul hc ?_
      have := Rat.mul_nonneg (Rat.mul_nonneg hg0 hg0) (show 0 ≤ p by grind)
      grind
    grind
  have hp : 0 < p := haa
  have hpI := inv_pos hp
  have hvI := inv_pos hv
  have n1 : p ≠ 0 := by grind
  have n2 : v ≠ 0 := by grind
  have et : 1 + (v - p) / p = v / p := by grind
  have hrho : 0 < v / p := by have := Rat.mul_pos hv hpI; grind
  refine ⟨hv, fun r hr => ?_, fun r hr => ?_⟩
  · have l := (hr.mul hr ha).mul (LO.base (t := (v - p) / p) (by grind)) (by grind)
    refine l.mono ?_ ?_
    · rw [et]
      have e : (v - p) / p / (v / p) = 1 - p * (1 / v) := by grind
      rw [e]
      have : p * (1 / v) ≤ 1 + g := by
        refine le_of_mul hv ?_
        have : v * (p * (1 / v)) = p := by grind
        grind
      grind
    · rw [et, hpp]
      have : p * (v / p) = v := by grind
      grind
  · have l := (hr.mul hr ha).mul (UP.base (t := (v - p) / p)) (by grind)
    refine l.mono ?_ ?_
    · have : (v - p) / p ≤ g := by
        refine le_of_mul hp ?_
        have : p * ((v - p) / p) = v - p := by grind
        grind
      grind
    · rw [et, hpp]
      have : p * (v / p) = v := by grind
      grind
end Lg

namespace Lg
/-- the numbers of one row of a table, x below M -/
abbrev NegOK (h0 kr k c0 al al' E p0 p1 : Rat) : Prop :=
  0 < k ∧ k ≤ 1 ∧ kr * k = 1 ∧ 0 ≤ c0 ∧ c0 ≤ 1 / 2 ∧ 0 ≤ E ∧ 0 ≤ h0 ∧ 0 < p1 ∧ 0 ≤ p0 ∧ (p0 + p1 - 1) * (p0 + p1 - 1) ≤ 4 * p1 * (p0 - c0) ∧
  0 < al' ∧ al' ≤ 1 ∧ h0 * ((c0 + 1) / 2 + k * h0 / 4) < al ∧ al' * al' + h0 * ((1 - al') * ((c0 + 1) / 2) + k * (2 * al' + h0) / 4) < al ∧
  (1 + E * h0 * k) * (kr * (1 - al') * (p0 + p1 * h0 + p1 * al') + (2 * al' + h0) / 4) ≤ E * (al' * al') ∧
  (1 + E * h0 * k) * (kr * (p1 - (p0 + p1 * h0) - 2 * p1 * al') + 1 / 2) ≤ 2 * E * al'
theorem sqnn (x : Rat) : 0 ≤ x * x := ratAbs
theorem neg_step {h0 kr k c0 al al' E p0 p1 : Rat} (C : NegOK h0 kr k c0 al al' E p0 p1) {h v a b q e : Rat} (hh : 0 < h) (hh0 : h ≤ h0)
    (ev : v = a * a + h * ((a - 1) * q - e * (a + b))) (eb : b = a + h * (q - e)) (he : Ab e (k / 4)) (hq : Ab (q * (1 + b)) (c0 + b))
    (hb0 : h ≤ b) (hb1 : b ≤ 1) (ha1 : a ≤ 1) (hv : al ≤ v) :
    al' ≤ a ∧ (∀ r, LO r a → LO (2 * r - E * h * k) v) ∧ (∀ r, UP r a → UP (2 * r + E * h * k) v) := by
  obtain ⟨k0, k1, kk, c00, c01, hE, h00, p10, p00, tan, al0, al1, r1, r2, f0, f1⟩ := C
  have b0 : 0 < b := by grind
  have b1p : 0 < 1 + b := by grind
  -- |q| by constants
  have hq1 : Ab q ((c0 + 1) / 2) := by
    have m := Rat.mul_nonneg (show 0 ≤ 1 - c0 by grind) (show 0 ≤ 1 - b by grind)
    have w : c0 + b ≤ (c0 + 1) / 2 * (1 + b) := by grind
    obtain ⟨q1, q2⟩ := hq
    constructor
    · refine le_of_mul b1p ?_; grind
    · refine le_of_mul b1p ?_; grind
  have hq2 : Ab q (p0 + p1 * b) := by
    have s := sqnn (2 * p1 * b + (p0 + p1 - 1))
    have w : c0 + b ≤ (p0 + p1 * b) * (1 + b) := by
      refine le_of_mul (show 0 < 4 * p1 by grind) ?_
      grind
    obtain ⟨q1, q2⟩ := hq
    constructor
    · refine le_of_mul b1p ?_; grind
    · refine le_of_mul b1p ?_; grind
  have he4 : Ab e (1 / 4) := he.le (by grind)
  have hqe : Ab (q + -e) 1 := (hq1.add he4.neg).le (by grind)
  have hHq : Ab (h * (q + -e)) (h * 1) := by
    have : Ab h h := ⟨by grind, by grind⟩
    exact this.mul hqe
  have eb' : b = a + h * (q + -e) := by rw [eb]; grind
  have a0 : 0 ≤ a := by obtain ⟨x, y⟩ := hHq; grind
  have ba : b ≤ a + h := by obtain ⟨x, y⟩ := hHq; grind
  have om : Ab (1 - a) (1 - a) := ⟨by grind, by grind⟩
  have abp : Ab (a + b) (a + b) := ⟨by grind, by grind⟩
  have hA : Ab h h := ⟨by grind, by grind⟩
  have dv : v - a * a = h * (-((1 - a) * q) + -(e * (a + b))) := by rw [ev]; grind
  -- a is not below al'
  have d1 : Ab (v - a * a) (h * ((1 - a) * ((c0 + 1) / 2) + k / 4 * (a + b))) := by
    rw [dv]
    exact hA.mul ((om.mul hq1).neg.add (he.mul abp).neg)
  have haa : al' ≤ a := by
    rcases tot al' a with x | x
    · exact x
    rcases Rat.le_iff_lt_or_eq.mp x with x | x
    · exfalso
      have g0 : 0 ≤ (1 - a) * ((c0 + 1) / 2) + k / 4 * (a + b) := by
        have := Rat.mul_nonneg (show 0 ≤ 1 - a by grind) (show 0 ≤ (c0 + 1) / 2 by grind)
        have := Rat.mul_nonneg (show 0 ≤ k / 4 by grind) (show 0 ≤ a + b by grind)
        grind
      have g1 : k / 4 * (a + b) ≤ k / 4 * (2 * a + h0) := Rat.mul_le_mul_of_nonneg_left (by grind) (by grind)
      have v1 : v ≤ a * a + h * ((1 - a) * ((c0 + 1) / 2) + k / 4 * (a + b)) := by obtain ⟨_, y⟩ := d1; grind
      have v2 := Rat.mul_nonneg (show 0 ≤ h0 - h by grind) g0
      have v3 := Rat.mul_le_mul_of_nonneg_left (show (1 - a) * ((c0 + 1) / 2) + k / 4 * (a + b) ≤ (1 - a) * ((c0 + 1) / 2) + k / 4 * (2 * a + h0) by grind) h00
      have v4 : v ≤ a * a + h0 * ((1 - a) * ((c0 + 1) / 2) + k / 4 * (2 * a + h0)) := by grind
      have v5 := Rat.mul_nonneg a0 (show 0 ≤ al' - a by grind)
      -- linear in a, below al at both ends
      have l0 := Rat.mul_nonneg (show 0 ≤ al' - a by grind) (show 0 ≤ al - h0 * ((c0 + 1) / 2 + k * h0 / 4) by grind)
      have l1 := Rat.mul_nonneg a0 (show 0 ≤ al - (al' * al' + h0 * ((1 - al') * ((c0 + 1) / 2) + k * (2 * al' + h0) / 4)) by grind)
      have l2 : al' * (al - (al' * a + h0 * ((1 - a) * ((c0 + 1) / 2) + k / 4 * (2 * a + h0)))) = (al' - a) * (al - h0 * ((c0 + 1) / 2 + k * h0 / 4)) + a * (al - (al' * al' + h0 * ((1 - al') * ((c0 + 1) / 2) + k * (2 * al' + h0) / 4))) := by grind
      have l3 : 0 < al' * (al - (al' * a + h0 * ((1 - a) * ((c0 + 1) / 2) + k / 4 * (2 * a + h0)))) := by
        have := Rat.mul_pos (show 0 < al' - a by grind) (show 0 < al - h0 * ((c0 + 1) / 2 + k * h0 / 4) by grind)
        grind
      have l4 : al - (al' * a + h0 * ((1 - a) * ((c0 + 1) / 2) + k / 4 * (2 * a + h0))) ≤ 0 := by grind
      have l5 := Rat.mul_nonneg (show 0 ≤ al' by grind) (show 0 ≤ -(al - (al' * a + h0 * ((1 - a) * ((c0 + 1) / 2) + k / 4 * (2 * a + h0)))) by grind)
      grind
    · grind
  refine ⟨haa, ?_⟩
  have apos : 0 < a := by grind
  -- the loss
  let X := kr * (1 - a) * (p0 + p1 * h0 + p1 * a) + (2 * a + h0) / 4
  have kr0 : 0 < kr := by
    rcases tot kr 0 with x | x
    · have := Rat.mul_nonneg (show 0 ≤ -kr by grind) (show 0 ≤ k by grind); grind
    · rcases Rat.le_iff_lt_or_eq.mp x with x | x
      · exact x
      · subst x; grind
  have d2 : Ab (v - a * a) (h * k * X) := by
    have r := hA.mul ((om.mul hq2).neg.add (he.mul abp).neg)
    rw [← dv] at r
    refine r.le ?_
    have w1 : (1 - a) * (p0 + p1 * b) ≤ (1 - a) * (p0 + p1 * h0 + p1 * a) := Rat.mul_le_mul_of_nonneg_left (by
      have := Rat.mul_le_mul_of_nonneg_left (show b ≤ a + h0 by grind) (show 0 ≤ p1 by grind); grind) (by grind)
    have w2 : k / 4 * (a + b) ≤ k / 4 * (2 * a + h0) := Rat.mul_le_mul_of_nonneg_left (by grind) (by grind)
    have w3 : k * X = (1 - a) * (p0 + p1 * h0 + p1 * a) + k / 4 * (2 * a + h0) := by
      show k * (kr * (1 - a) * (p0 + p1 * h0 + p1 * a) + (2 * a + h0) / 4) = _
      have : k * (kr * (1 - a) * (p0 + p1 * h0 + p1 * a)) = (kr * k) * ((1 - a) * (p0 + p1 * h0 + p1 * a)) := by grind
      have e2 : k * (kr * (1 - a) * (p0 + p1 * h0 + p1 * a) + (2 * a + h0) / 4) = k * (kr * (1 - a) * (p0 + p1 * h0 + p1 * a)) + k / 4 * (2 * a + h0) := by grind
      rw [e2, this, kk]; grind
    have w4 := Rat.mul_le_mul_of_nonneg_left (show (1 - a) * (p0 + p1 * b) + k / 4 * (a + b) ≤ k * X by rw [w3]; grind) (show 0 ≤ h by grind)
    grind
  have hX0 : 0 ≤ X := by
    have x1 : 0 ≤ p0 + p1 * h0 + p1 * a := by
      have := Rat.mul_nonneg (show 0 ≤ p1 by grind) h00
      have := Rat.mul_nonneg (show 0 ≤ p1 by grind) a0
      grind
    have := Rat.mul_nonneg (Rat.mul_nonneg (show 0 ≤ kr by grind) (show 0 ≤ 1 - a by grind)) x1
    show 0 ≤ kr * (1 - a) * (p0 + p1 * h0 + p1 * a) + (2 * a + h0) / 4
    grind
  have fin : X * (1 + E * h0 * k) ≤ E * (a * a) := by
    show (kr * (1 - a) * (p0 + p1 * h0 + p1 * a) + (2 * a + h0) / 4) * (1 + E * h0 * k) ≤ E * (a * a)
    have c0' : 0 ≤ 1 + E * h0 * k := by
      have := Rat.mul_nonneg (Rat.mul_nonneg hE h00) (show 0 ≤ k by grind)
      grind
    generalize 1 + E * h0 * k = c at *
    obtain ⟨t, ht⟩ : ∃ t, a = al' + t := ⟨a - al', by grind⟩
    have t0 : 0 ≤ t := by grind
    subst ht
    have g1 := Rat.mul_nonneg t0 (show 0 ≤ 2 * E * al' - c * (kr * (p1 - (p0 + p1 * h0) - 2 * p1 * al') + 1 / 2) by grind)
    have g2 := Rat.mul_nonneg hE (sqnn t)
    have g3 := Rat.mul_nonneg (Rat.mul_nonneg (Rat.mul_nonneg c0' (show 0 ≤ kr by grind)) (show 0 ≤ p1 by grind)) (sqnn t)
    grind
  have fin2 : X * (1 + E * h * k) ≤ E * (a * a) := by
    have := Rat.mul_nonneg hX0 (Rat.mul_nonneg (Rat.mul_nonneg hE (show 0 ≤ h0 - h by grind)) (show 0 ≤ k by grind))
    grind
  exact (back apos hh k0 hE d2 fin2).2
end Lg

namespace Lg
/-- the numbers of one row of a table, x not below M -/
abbrev PosOK (h0 kr k c0 be be' E Q : Rat) : Prop :=
  0 < k ∧ k ≤ 1 ∧ kr * k = 1 ∧ 0 ≤ c0 ∧ c0 ≤ 1 / 2 ∧ 0 ≤ E ∧ 0 ≤ h0 ∧ h0 ≤ 1 ∧ 0 ≤ Q ∧ Q ≤ 1 ∧ 1 ≤ be' ∧
  be ≤ be' * be' - h0 * ((be' - 1) + k / 4 * (2 * be' + 5 / 4 * h0)) ∧
  c0 + (be' + 5 / 4 * h0) ≤ Q * (1 + (be' + 5 / 4 * h0)) ∧
  (((1 + E * h0 * k) * (kr * Q + 1 / 2)) * ((1 + E * h0 * k) * (kr * Q + 1 / 2)) ≤ 4 * E * ((1 + E * h0 * k) * (kr * Q - 5 / 16 * h0)) ∧ 0 < E ∨
   (1 + E * h0 * k) * (kr * (be' - 1) * Q + (2 * be' + 5 / 4 * h0) / 4) ≤ E * (be' * be') ∧ 2 * E * be' ≤ (1 + E * h0 * k) * (kr * Q + 1 / 2))
theorem pos_step {h0 kr k c0 be be' E Q : Rat} (C : PosOK h0 kr k c0 be be' E Q) {h v a b q e : Rat} (hh : 0 < h) (hh0 : h ≤ h0)
    (ev : v = a * a + h * ((a - 1) * q - e * (a + b))) (eb : b = a + h * (q - e)) (he : Ab e (k / 4)) (hq : Ab (q * (1 + b)) (c0 + b))
    (hb1 : 1 ≤ b) (ha1 : 1 ≤ a) (hv : v ≤ be) :
    a ≤ be' ∧ (∀ r, LO r a → LO (2 * r - E * h * k) v) ∧ (∀ r, UP r a → UP (2 * r + E * h * k) v) := by
  obtain ⟨k0, k1, kk, c00, c01, hE, h00, h01, hQ0, hQ1, be1, r1, r2, f⟩ := C
  have b1p : 0 < 1 + b := by grind
  have hq1 : Ab q 1 := by
    obtain ⟨q1, q2⟩ := hq
    constructor
    · refine le_of_mul b1p ?_; grind
    · refine le_of_mul b1p ?_; grind
  have he4 : Ab e (1 / 4) := he.le (by grind)
  have hqe : Ab (q + -e) (5 / 4) := (hq1.add he4.neg).le (by grind)
  have hA : Ab h h := ⟨by grind, by grind⟩
  have hHq : Ab (h * (q + -e)) (h * (5 / 4)) := hA.mul hqe
  have eb' : b = a + h * (q + -e) := by rw [eb]; grind
  have ba : b ≤ a + 5 / 4 * h := by obtain ⟨x, y⟩ := hHq; grind
  have om : Ab (a - 1) (a - 1) := ⟨by grind, by grind⟩
  have abp : Ab (a + b) (a + b) := ⟨by grind, by grind⟩
  have dv : v - a * a = h * ((a - 1) * q + -(e * (a + b))) := by rw [ev]; grind
  have d1 : Ab (v - a * a) (h * ((a - 1) * 1 + k / 4 * (a + b))) := by
    rw [dv]
    exact hA.mul ((om.mul hq1).add (he.mul abp).neg)
  have kab : k / 4 * (a + b) ≤ k / 4 * (2 * a + 5 / 4 * h0) := Rat.mul_le_mul_of_nonneg_left (by grind) (by grind)
  have kab0 := Rat.mul_nonneg (show 0 ≤ k / 4 by grind) (show 0 ≤ a + b by grind)
  have haa : a ≤ be' := by
    rcases tot a be' with x | x
    · exact x
    rcases Rat.le_iff_lt_or_eq.mp x with x | x
    · exfalso
      have v1 : a * a - h * ((a - 1) * 1 + k / 4 * (a + b)) ≤ v := by obtain ⟨y, _⟩ := d1; grind
      have g0 : 0 ≤ (a - 1) * 1 + k / 4 * (a + b) := by grind
      have v2 := Rat.mul_nonneg (show 0 ≤ h0 - h by grind) g0
      have v3 := Rat.mul_le_mul_of_nonneg_left (show (a - 1) * 1 + k / 4 * (a + b) ≤ (a - 1) * 1 + k / 4 * (2 * a + 5 / 4 * h0) by grind) h00
      have v4 : a * a - h0 * ((a - 1) * 1 + k / 4 * (2 * a + 5 / 4 * h0)) ≤ v := by grind
      obtain ⟨t, ht⟩ : ∃ t, a = be' + t := ⟨a - be', by grind⟩
      have t0 : 0 < t := by grind
      have w1 : h0 * (1 + k / 2) ≤ 3 / 2 := by
        have := mul_le_mul h01 (show 1 + k / 2 ≤ 3 / 2 by grind) h00 (by grind)
        grind
      have w2 := Rat.mul_pos t0 (show 0 < 2 * be' + t - h0 * (1 + k / 2) by grind)
      subst ht
      grind
    · grind
  refine ⟨haa, ?_⟩
  have hq2 : Ab q Q := by
    have w : c0 + b ≤ Q * (1 + b) := by
      have := Rat.mul_nonneg (show 0 ≤ 1 - Q by grind) (show 0 ≤ be' + 5 / 4 * h0 - b by grind)
      grind
    obtain ⟨q1, q2⟩ := hq
    constructor
    · refine le_of_mul b1p ?_; grind
    · refine le_of_mul b1p ?_; grind
  let X := kr * (a - 1) * Q + (2 * a + 5 / 4 * h0) / 4
  have kr0 : 0 < kr := by
    rcases tot kr 0 with x | x
    · have := Rat.mul_nonneg (show 0 ≤ -kr by grind) (show 0 ≤ k by grind); grind
    · rcases Rat.le_iff_lt_or_eq.mp x with x | x
      · exact x
      · subst x; grind
  have d2 : Ab (v - a * a) (h * k * X) := by
    have r := hA.mul ((om.mul hq2).add (he.mul abp).neg)
    rw [← dv] at r
    refine r.le ?_
    have w3 : k * X = (a - 1) * Q + k / 4 * (2 * a + 5 / 4 * h0) := by
      show k * (kr * (a - 1) * Q + (2 * a + 5 / 4 * h0) / 4) = _
      have e2 : k * (kr * (a - 1) * Q + (2 * a + 5 / 4 * h0) / 4) = (kr * k) * ((a - 1) * Q) + k / 4 * (2 * a + 5 / 4 * h0) := by grind
      rw [e2, kk]; grind
    have w4 := Rat.mul_le_mul_of_nonneg_left (show (a - 1) * Q + k / 4 * (a + b) ≤ k * X by rw [w3]; grind) (show 0 ≤ h by grind)
    grind
  have hX0 : 0 ≤ X := by
    have := Rat.mul_nonneg (Rat.mul_nonneg (show 0 ≤ kr by grind) (show 0 ≤ a - 1 by grind)) hQ0
    show 0 ≤ kr * (a - 1) * Q + (2 * a + 5 / 4 * h0) / 4
    grind
  have fin : X * (1 + E * h0 * k) ≤ E * (a * a) := by
    show (kr * (a - 1) * Q + (2 * a + 5 / 4 * h0) / 4) * (1 + E * h0 * k) ≤ E * (a * a)
    have c0' : 0 ≤ 1 + E * h0 * k := by
      have := Rat.mul_nonneg (Rat.mul_nonneg hE h00) (show 0 ≤ k by grind)
      grind
    generalize 1 + E * h0 * k = c at *
    rcases f with ⟨f, hE'⟩ | ⟨f0, f1⟩
    · refine le_of_mul (show 0 < 4 * E by grind) ?_
      have s := sqnn (2 * E * a - c * (kr * Q + 1 / 2))
      grind
    · obtain ⟨t, ht⟩ : ∃ t, a = be' - t := ⟨be' - a, by grind⟩
      have t0 : 0 ≤ t := by grind
      subst ht
      have g1 := Rat.mul_nonneg t0 (show 0 ≤ c * (kr * Q + 1 / 2) - 2 * E * be' by grind)
      have g2 := Rat.mul_nonneg hE (sqnn t)
      grind
  have fin2 : X * (1 + E * h * k) ≤ E * (a * a) := by
    have := Rat.mul_nonneg hX0 (Rat.mul_nonneg (Rat.mul_nonneg hE (show 0 ≤ h0 - h by grind)) (show 0 ≤ k by grind))
    grind
  exact (back (by grind) hh k0 hE d2 fin2).2
end Lg

namespace Lg
/- the program's small functions -/
def divN (a b : Int) : Int := a.fdiv b + if b < 2 * a.fmod b + (a.fdiv b).fmod 2 then 1 else 0
def rsn (x s : Int) : Int := x.fdiv (2 ^ s.toNat) + if 2 ^ s.toNat < 2 * x.fmod (2 ^ s.toNat) + (x.fdiv (2 ^ s.toNat)).fmod 2 then 1 else 0
def nxt (n a : Int) : Int := (a - (-n).fdiv a).fdiv 2
def newt (n : Int) : Nat → Int → Int
  | 0, a => a
  | f + 1, a => if nxt n a = a then a else newt n f (nxt n a)
def IsSq (n s : Int) : Prop := 1 ≤ s ∧ s * s - s < n ∧ n ≤ s * s + s
def sqN (n a : Int) : Int := newt n (n.toNat + a.toNat + 3) a

theorem fd {x p : Int} (h : 0 < p) : x.fdiv p = x / p := Int.fdiv_eq_ediv_of_nonneg _ (by omega)
theorem fm {x p : Int} (h : 0 < p) : x.fmod p = x % p := Int.fmod_eq_emod_of_nonneg _ (by omega)
theorem divN_facts {a b : Int} (hb : 0 < b) : -b ≤ 2 * (b * divN a b - a) ∧ 2 * (b * divN a b - a) ≤ b := by
  unfold divN
  rw [fd hb, fm hb, fm (by decide)]
  have h1 := Int.mul_ediv_add_emod a b
  have h2 := Int.emod_nonneg a (show b ≠ 0 by omega)
  have h3 := Int.emod_lt_of_pos a hb
  generalize a / b = q at *
  generalize a % b = r at *
  split
  · rw [Int.mul_add, Int.mul_one]; omega
  · rw [Int.add_zero]; omega
theorem pw_pos (k : Nat) : (0 : Int) < 2 ^ k := Int.pow_pos (by decide)
theorem rsn_divN (x s : Int) : rsn x s = divN x (2 ^ s.toNat) := rfl
theorem rsn_zero (x : Int) : rsn x 0 = x := by
  have := divN_facts (a := x) (pw_pos (Int.toNat 0))
  rw [← rsn_divN] at this
  simp at this
  omega
theorem isSq_unique {n s t : Int} (h : IsSq n s) (g : IsSq n t) : s = t := by
  obtain ⟨h0, h1, h2⟩ := h
  obtain ⟨g0, g1, g2⟩ := g
  rcases Int.lt_trichotomy s t with a | a | a
  · exfalso
    have : (s + 1) * s ≤ t * (t - 1) := Int.mul_le_mul (by omega) (by omega) (by omega) (by omega)
    rw [Int.add_mul, Int.mul_sub] at this
    omega
  · exact a
  · exfalso
    have : (t + 1) * t ≤ s * (s - 1) := Int.mul_le_mul (by omega) (by omega) (by omega) (by omega)
    rw [Int.add_mul, Int.mul_sub] at this
    omega
/-- the next approximation: twice it is a + n / a rounded up, or one less -/
theorem nxt_facts {n a : Int} (ha : 1 ≤ a) : ∃ c : Int, c * a ≥ n ∧ (c - 1) * a < n ∧ 2 * nxt n a ≤ a + c ∧ a + c ≤ 2 * nxt n a + 1 := by
  unfold nxt
  rw [fd (p := 2) (by decide), fd (p := a) (by omega)]
  have h1 := Int.mul_ediv_add_emod (-n) a
  have h2 := Int.emod_nonneg (-n) (show a ≠ 0 by omega)
  have h3 := Int.emod_lt_of_pos (-n) (show 0 < a by omega)
  refine ⟨-((-n) / a), ?_, ?_, by omega, by omega⟩
  · rw [Int.neg_mul, Int.mul_comm]; omega
  · rw [Int.sub_mul, Int.neg_mul, Int.mul_comm, Int.one_mul]; omega
theorem nxt_fix {n a : Int} (ha : 1 ≤ a) (h : nxt n a = a) : IsSq n a := by
  obtain ⟨c, c1, c2, c3, c4⟩ := nxt_facts (n := n) ha
  rw [h] at c3 c4
  have : c = a ∨ c = a + 1 := by omega
  rcases this with rfl | rfl
  · rw [Int.sub_mul] at c2
    exact ⟨ha, by omega, by omega⟩
  · rw [Int.add_mul] at c1
    have : a + 1 - 1 = a := by omega
    rw [this] at c2
    exact ⟨ha, by omega, by omega⟩
/-- never below the root -/
theorem nxt_ge {n a : Int} (ha : 1 ≤ a) (hn : 1 ≤ n) : 1 ≤ nxt n a ∧ n ≤ nxt n a * nxt n a + nxt n a := by
  obtain ⟨c, c1, c2, c3, c4⟩ := nxt_facts (n := n) ha
  have hc : 1 ≤ c := by
    rcases Int.lt_or_le 0 c with h | h
    · omega
    · have := Int.mul_nonneg (show 0 ≤ -c by omega) (show 0 ≤ a by omega)
      rw [Int.neg_mul] at this; omega
  refine ⟨by omega, ?_⟩
  generalize nxt n a = t at *
  -- (a - c)^2 ≥ 0
  have sq : 0 ≤ (a - c) * (a - c) := by
    rcases Int.le_total 0 (a - c) with h | h
    · exact Int.mul_nonneg h h
    · have := Int.mul_nonneg (show 0 ≤ -(a - c) by omega) (show 0 ≤ -(a - c) by omega)
      rw [Int.neg_mul_neg] at this; exact this
  have up : (a + c) * (a + c) ≤ (2 * t + 1) * (2 * t + 1) := Int.mul_le_mul c4 c4 (by omega) (by omega)
  have e1 : (a - c) * (a - c) = a * a - 2 * (c * a) + c * c := by grind
  have e2 : (a + c) * (a + c) = a * a + 2 * (c * a) + c * c := by grind
  have e3 : (2 * t + 1) * (2 * t + 1) = 4 * (t * t) + 4 * t + 1 := by grind
  omega
theorem nxt_le {n a : Int} (ha : 1 ≤ a) (h : n ≤ a * a + a) : nxt n a ≤ a := by
  obtain ⟨c, c1, c2, c3, c4⟩ := nxt_facts (n := n) ha
  have : c - 1 < a + 1 := by
    rcases Int.lt_or_le (c - 1) (a + 1) with x | x
    · exact x
    · have := Int.mul_le_mul_of_nonneg_right x (show 0 ≤ a by omega)
      rw [Int.add_mul] at this; omega
  omega
theorem nxt_le' {n a : Int} (ha : 1 ≤ a) (hn : 1 ≤ n) (h : a * a + a < n) : nxt n a ≤ n := by
  obtain ⟨c, c1, c2, c3, c4⟩ := nxt_facts (n := n) ha
  have : c - 1 < n := by
    rcases Int.lt_or_le (c - 1) n with x | x
    · exact x
    · have := Int.mul_le_mul_of_nonneg_right x (show 0 ≤ a by omega)
      have : n * 1 ≤ n * a := Int.mul_le_mul_of_nonneg_left ha (by omega)
      omega
  have : 0 ≤ a * a := Int.mul_nonneg (by omega) (by omega)
  omega
theorem newt_sq : ∀ (f : Nat) {n a : Int}, 1 ≤ n → 1 ≤ a → n ≤ a * a + a → a.toNat ≤ f → IsSq n (newt n f a)
  | 0, n, a, _, ha, _, hf => by omega
  | f + 1, n, a, hn, ha, h, hf => by
    rw [newt]
    by_cases e : nxt n a = a
    · rw [if_pos e]; exact nxt_fix ha e
    · rw [if_neg e]
      have h1 := nxt_ge ha hn
      have h2 := nxt_le ha h
      exact newt_sq f hn h1.1 h1.2 (by omega)
theorem sqN_sq {n a : Int} (hn : 1 ≤ n) (ha : 1 ≤ a) : IsSq n (sqN n a) := by
  unfold sqN
  rcases Int.lt_or_le (a * a + a) n with h | h
  · have e : n.toNat + a.toNat + 3 = (n.toNat + a.toNat + 2) + 1 := by omega
    rw [e, newt]
    have h1 := nxt_ge ha hn
    have h2 := nxt_le' ha hn h
    by_cases e : nxt n a = a
    · rw [if_pos e]; exact nxt_fix ha e
    · rw [if_neg e]; exact newt_sq _ hn h1.1 h1.2 (by omega)
  · exact newt_sq _ hn ha h (by omega)
/-- one halving of _ilog -/
def stepY (M y R : Int) : Int := divN (2 * (M * y)) (M + sqN (M * (M + rsn y R)) M)
def iterY (M y : Int) : Nat → Int
  | 0 => y
  | j + 1 => stepY M (iterY M y j) j
theorem halving_of {M y R : Int} (hM : 1 ≤ M) (h : 1 ≤ M + rsn y R) : Halving M (2 ^ R.toNat) y (rsn y R) (sqN (M * (M + rsn y R)) M) (stepY M y R) := by
  have hn : 1 ≤ M * (M + rsn y R) := by
    have := Int.mul_le_mul hM h (by omega) (by omega); omega
  obtain ⟨s0, s1, s2⟩ := sqN_sq hn hM
  have r := divN_facts (a := y) (pw_pos R.toNat)
  rw [← rsn_divN] at r
  have d := divN_facts (a := 2 * (M * y)) (b := M + sqN (M * (M + rsn y R)) M) (by omega)
  exact ⟨by omega, pw_pos _, r.1, r.2, s0, s1, s2, d.1, d.2⟩
theorem Halving.negs {M K y ys s z : Int} (H : Halving M K y ys s z) (hy : y ≤ -1) : ys ≤ 0 ∧ s ≤ M ∧ z ≤ -1 := by
  obtain ⟨hM, hK, y1, y2, s0, s1, s2, z1, z2⟩ := H
  have a : ys ≤ 0 := by
    rcases Int.lt_or_le 0 ys with x | x
    · have := Int.mul_le_mul_of_nonneg_left (show 1 ≤ ys by omega) (show 0 ≤ K by omega); omega
    · exact x
  have b : s ≤ M := by
    rcases Int.lt_or_le M s with x | x
    · have h1 : (M + 1) * M ≤ s * (s - 1) := Int.mul_le_mul (by omega) (by omega) (by omega) (by omega)
      have h2 := Int.mul_nonneg (show 0 ≤ M by omega) (show 0 ≤ -ys by omega)
      rw [Int.add_mul, Int.mul_sub] at h1
      rw [Int.mul_add] at s1
      rw [Int.mul_neg] at h2
      omega
    · exact x
  refine ⟨a, b, ?_⟩
  rcases Int.lt_or_le (-1) z with x | x
  · have h1 := Int.mul_nonneg (show 0 ≤ M + s by omega) (show 0 ≤ z by omega)
    have h2 := Int.mul_le_mul_of_nonneg_left hy (show 0 ≤ M by omega)
    omega
  · exact x
theorem Halving.poss {M K y ys s z : Int} (H : Halving M K y ys s z) (hy : 1 ≤ y) : 0 ≤ ys ∧ M ≤ s ∧ 1 ≤ z := by
  obtain ⟨hM, hK, y1, y2, s0, s1, s2, z1, z2⟩ := H
  have a : 0 ≤ ys := by
    rcases Int.lt_or_le ys 0 with x | x
    · have := Int.mul_le_mul_of_nonneg_left (show ys ≤ -1 by omega) (show 0 ≤ K by omega); omega
    · exact x
  have h2 := Int.mul_nonneg (show 0 ≤ M by omega) a
  rw [Int.mul_add] at s1 s2
  have b : M ≤ s := by
    rcases Int.lt_or_le s M with x | x
    · have h1 : s * (s + 1) ≤ (M - 1) * M := Int.mul_le_mul (by omega) (by omega) (by omega) (by omega)
      rw [Int.sub_mul, Int.mul_add] at h1
      omega
    · exact x
  refine ⟨a, b, ?_⟩
  have yb : ys ≤ y := by
    rcases Int.lt_or_le y ys with x | x
    · have h3 := Int.mul_le_mul_of_nonneg_left (show y + 1 ≤ ys by omega) (show 0 ≤ K by omega)
      have h4 := Int.mul_le_mul_of_nonneg_right (show 1 ≤ K by omega) (show 0 ≤ y by omega)
      rw [Int.mul_add] at h3
      omega
    · exact x
  have sb : s ≤ M + y := by
    rcases Int.lt_or_le (M + y) s with x | x
    · have h1 : (M + y + 1) * (M + y) ≤ s * (s - 1) := Int.mul_le_mul (by omega) (by omega) (by omega) (by omega)
      have h5 := Int.mul_le_mul_of_nonneg_left yb (show 0 ≤ M by omega)
      have h6 := Int.mul_nonneg (show 0 ≤ y by omega) (show 0 ≤ M by omega)
      have h7 := Int.mul_nonneg (show 0 ≤ y by omega) (show 0 ≤ y by omega)
      have e : (M + y + 1) * (M + y) = M * M + M * y + y * M + y * y + M + y := by grind
      rw [Int.mul_sub] at h1
      omega
    · exact x
  rcases Int.lt_or_le z 1 with x | x
  · have h1 := Int.mul_nonneg (show 0 ≤ M + s by omega) (show 0 ≤ -z by omega)
    have h3 := Int.mul_le_mul hy (Int.le_refl M) (by omega) (by omega)
    have h4 := Int.mul_le_mul_of_nonneg_right (show 1 ≤ M by omega) (show 0 ≤ y by omega)
    rw [Int.mul_neg] at h1
    rw [Int.mul_comm y M] at h3
    omega
  · exact x
end Lg

namespace Lg
def Bs (E : Nat → Rat) : Nat → Rat
  | 0 => 0
  | j + 1 => Bs E j + E j
/-- the number whose logarithm is left after j halvings -/
def vv (M : Int) (y : Int) (j : Nat) : Rat := 1 + (y : Rat) * (1 / 2 ^ j) * (1 / M)
theorem cast_two (j : Nat) : (((2 : Int) ^ j : Int) : Rat) = 2 ^ j := by push_cast; rfl
theorem two_pos (j : Nat) : (0 : Rat) < 2 ^ j := pow_pos (by grind) j
/-- how the halvings keep the logarithm: what is known of v_j is known of v_0 -/
def Keeps (M x : Int) (y : Int) (j : Nat) (B : Rat) : Prop :=
  (∀ r, LO r (vv M y j) → LO (2 ^ j * r - B * (1 / M)) ((x : Rat) / M)) ∧ (∀ r, UP r (vv M y j) → UP (2 ^ j * r + B * (1 / M)) ((x : Rat) / M))
theorem keeps_zero {M x : Int} (hM : 1 ≤ M) : Keeps M x (x - M) 0 0 := by
  have hm := clt (show (0 : Int) < M by omega)
  have e : vv M (x - M) 0 = (x : Rat) / M := by
    unfold vv; push_cast at *; grind
  constructor
  · intro r hr
    rw [e] at hr
    refine hr.mono ?_ (Rat.le_refl)
    rw [Rat.pow_zero]; grind
  · intro r hr
    rw [e] at hr
    refine hr.mono ?_ (Rat.le_refl)
    rw [Rat.pow_zero]; grind
theorem keeps_succ {M x y z : Int} {j : Nat} {B E : Rat} (K : Keeps M x y j B)
    (l : ∀ r, LO r (vv M z (j + 1)) → LO (2 * r - E * (1 / M) * (1 / 2 ^ j)) (vv M y j)) (u : ∀ r, UP r (vv M z (j + 1)) → UP (2 * r + E * (1 / M) * (1 / 2 ^ j)) (vv M y j)) :
    Keeps M x z (j + 1) (B + E) := by
  have h2 := two_pos j
  have e : (2 : Rat) ^ j * (1 / 2 ^ j) = 1 := by grind
  have e1 : (2 : Rat) ^ (j + 1) = 2 * 2 ^ j := by rw [Rat.pow_succ]; grind
  constructor
  · intro r hr
    refine (K.1 _ (l r hr)).mono ?_ (Rat.le_refl)
    have : (2 : Rat) ^ j * (2 * r - E * (1 / M) * (1 / 2 ^ j)) = 2 * 2 ^ j * r - E * (1 / M) * (2 ^ j * (1 / 2 ^ j)) := by grind
    rw [this, e, e1]; grind
  · intro r hr
    refine (K.2 _ (u r hr)).mono ?_ (Rat.le_refl)
    have : (2 : Rat) ^ j * (2 * r + E * (1 / M) * (1 / 2 ^ j)) = 2 * 2 ^ j * r + E * (1 / M) * (2 ^ j * (1 / 2 ^ j)) := by grind
    rw [this, e, e1]; grind
theorem rsn_low {y : Int} (j : Nat) : ((y : Rat) * (1 / 2 ^ j) - 1 / 2 ≤ (rsn y j : Int)) ∧ (((rsn y j : Int) : Rat) ≤ (y : Rat) * (1 / 2 ^ j) + 1 / 2) := by
  have r := divN_facts (a := y) (pw_pos (j : Int).toNat)
  rw [← rsn_divN] at r
  have r1 := cle r.1
  have r2 := cle r.2
  push_cast at r1 r2
  have e : ((j : Int).toNat) = j := by omega
  rw [e] at r1 r2
  have h2 := two_pos j
  constructor
  · refine le_of_mul h2 ?_
    have : (2 : Rat) ^ j * ((y : Rat) * (1 / 2 ^ j) - 1 / 2) = y - 2 ^ j / 2 := by grind
    grind
  · refine le_of_mul h2 ?_
    have : (2 : Rat) ^ j * ((y : Rat) * (1 / 2 ^ j) + 1 / 2) = y + 2 ^ j / 2 := by grind
    grind
theorem rsn_pos {M y : Int} {j : Nat} {al : Rat} (hM : 10 ≤ M) (hal : 1 / 10 ≤ al) (hv : al ≤ vv M y j) : 1 ≤ M + rsn y j := by
  have r := (rsn_low (y := y) j).1
  have hm := cle hM
  have hm0 := clt (show (0 : Int) < M by omega)
  unfold vv at hv
  have h2 := two_pos j
  have m := Rat.mul_le_mul_of_nonneg_left hv (show (0 : Rat) ≤ M by grind)
  have e : (M : Rat) * (1 + (y : Rat) * (1 / 2 ^ j) * (1 / M)) = M + y * (1 / 2 ^ j) := by grind
  rw [e] at m
  have m2 := Rat.mul_nonneg (show (0 : Rat) ≤ M - 10 by push_cast at hm; grind) (show 0 ≤ al - 1 / 10 by grind)
  have : (0 : Rat) < ((M + rsn y j : Int) : Rat) := by
    push_cast at *
    rcases tot ((M : Rat) + (rsn y j : Int)) 0 with x | x
    · exfalso
      have hh : (M : Rat) * al ≤ 1 / 2 := by grind
      have h10 : (10 : Rat) * (1/10) ≤ M * al := mul_le_mul (by grind) hal (by grind) (by grind)
      grind
    · rcases Rat.le_iff_lt_or_eq.mp x with x | x
      · grind
      · exfalso
        have h10 : (10 : Rat) * (1/10) ≤ M * al := mul_le_mul (by push_cast at hm; grind) hal (by grind) (by grind)
        grind
  have : (0 : Int) < M + rsn y j := by
    have : ((0 : Int) : Rat) < ((M + rsn y j : Int) : Rat) := by push_cast at *; grind
    exact Rat.intCast_lt_intCast.mp this
  omega
theorem v0_low {M x : Int} (hM : 1 ≤ M) (hx : M ≤ 10 * x) : 1 / 10 ≤ vv M (x - M) 0 := by
  have hm0 := clt (show (0 : Int) < M by omega)
  unfold vv
  have := cle hx
  push_cast at *
  refine le_of_mul hm0 ?_
  rw [Rat.pow_zero]
  have e : (M : Rat) * (1 + ((x : Rat) - M) * (1 / 1) * (1 / M)) = x := by grind
  rw [e]; grind
theorem v0_up {M x : Int} (hM : 1 ≤ M) (hx : x ≤ 10 * M) : vv M (x - M) 0 ≤ 10 := by
  have hm0 := clt (show (0 : Int) < M by omega)
  unfold vv
  have := cle hx
  push_cast at *
  refine le_of_mul hm0 ?_
  rw [Rat.pow_zero]
  have e : (M : Rat) * (1 + ((x : Rat) - M) * (1 / 1) * (1 / M)) = x := by grind
  rw [e]; grind
theorem b_low {M s : Int} (hM : 1 ≤ M) (hs : 1 ≤ s) : 1 / (M : Rat) ≤ (s : Rat) * (1 / (M : Rat)) := by
  have hm0 := inv_pos (clt (show (0 : Int) < M by omega))
  have s0 := cle hs
  push_cast at *
  have := Rat.mul_le_mul_of_nonneg_left s0 (show (0 : Rat) ≤ 1 / M by grind)
  grind
theorem b_up {M s : Int} (hM : 1 ≤ M) (hs : s ≤ M) : (s : Rat) * (1 / (M : Rat)) ≤ 1 := by
  have hm := clt (show (0 : Int) < M by omega)
  have hm0 := inv_pos hm
  have s0 := cle hs
  push_cast at *
  have := Rat.mul_le_mul_of_nonneg_left s0 (show (0 : Rat) ≤ 1 / M by grind)
  have : (1 / (M : Rat)) * M = 1 := by grind
  grind
theorem b_ge {M s : Int} (hM : 1 ≤ M) (hs : M ≤ s) : 1 ≤ (s : Rat) * (1 / (M : Rat)) := by
  have hm := clt (show (0 : Int) < M by omega)
  have hm0 := inv_pos hm
  have s0 := cle hs
  push_cast at *
  have := Rat.mul_le_mul_of_nonneg_left s0 (show (0 : Rat) ≤ 1 / M by grind)
  have : (1 / (M : Rat)) * M = 1 := by grind
  grind
theorem vv_le {M y : Int} {j : Nat} (hM : 1 ≤ M) (hy : y ≤ 0) : vv M y j ≤ 1 := by
  have hm0 := inv_pos (clt (show (0 : Int) < M by omega))
  unfold vv
  have z1 := cle hy
  have h2 := inv_pos (two_pos j)
  push_cast at *
  have := Rat.mul_nonneg (Rat.mul_nonneg (show (0 : Rat) ≤ -(y : Rat) by grind) (show (0 : Rat) ≤ 1 / 2 ^ j by grind)) (show (0 : Rat) ≤ 1 / M by grind)
  grind
theorem a_eq {M z : Int} (j : Nat) : vv M z (j + 1) = 1 + (z : Rat) * (1 / 2 ^ j) * (1 / (M : Rat)) / 2 := by
  unfold vv
  rw [Rat.pow_succ]
  have := two_pos j
  have e : (1 : Rat) / (2 ^ j * 2) = (1 / 2 ^ j) / 2 := by grind
  rw [e]
  grind
theorem q_case {y : Int} {j : Nat} {q b : Rat} (hq : Ab (q * (1 + b)) (1 / 2 + b)) (hq0 : 2 ^ j * rsn y j = y → Ab (q * (1 + b)) b) : Ab (q * (1 + b)) ((if j = 0 then 0 else 1 / 2) + b) := by
  by_cases h0 : j = 0
  · subst h0
    rw [if_pos rfl]
    have := hq0 (by rw [show ((0 : Nat) : Int) = 0 from rfl, rsn_zero]; simp)
    rwa [show (0 : Rat) + b = b by grind]
  · rw [if_neg h0]; exact hq
section
variable {h0 : Rat} {al E p0 p1 : Nat → Rat}
theorem neg_chain (C : ∀ j, j < 10 → NegOK h0 (2 ^ j) (1 / 2 ^ j) (if j = 0 then 0 else 1 / 2) (al j) (al (j + 1)) (E j) (p0 j) (p1 j)) (hal : ∀ j, j ≤ 10 → 1 / 10 ≤ al j) (hal0 : al 0 = 1 / 10)
    {M x : Int} (hM : 10 ≤ M) (hh : 1 / (M : Rat) ≤ h0) (hx : x < M) (hx10 : M ≤ 10 * x) : ∀ j, j ≤ 10 →
    iterY M (x - M) j ≤ -1 ∧ 1 ≤ M + rsn (iterY M (x - M) j) j ∧ al j ≤ vv M (iterY M (x - M) j) j ∧ Keeps M x (iterY M (x - M) j) j (Bs E j) := by
  intro j
  have hm0 := clt (show (0 : Int) < M by omega)
  induction j with
  | zero =>
    intro _
    have hv : al 0 ≤ vv M (x - M) 0 := by rw [hal0]; exact v0_low (by omega) hx10
    exact ⟨by show x - M ≤ -1; omega, rsn_pos hM (hal 0 (by omega)) hv, hv, keeps_zero (by omega)⟩
  | succ j ih =>
    intro hj
    obtain ⟨y1, yp, yv, K⟩ := ih (by omega)
    have H := halving_of (show 1 ≤ M by omega) yp
    have et : ((j : Int).toNat) = j := by omega
    rw [et] at H
    obtain ⟨n1, n2, n3⟩ := H.negs y1
    show iterY M (x - M) (j + 1) ≤ -1 ∧ _
    have ei : iterY M (x - M) (j + 1) = stepY M (iterY M (x - M) j) j := rfl
    rw [ei]
    generalize iterY M (x - M) j = y at *
    have hex := Halving.rat H (h := 1 / M) (k := 1 / 2 ^ j) (v := vv M y j) (a := vv M (stepY M y j) (j + 1)) (b := (sqN (M * (M + rsn y j)) M : Int) * (1 / (M : Rat))) rfl (by rw [cast_two]) rfl (a_eq j) rfl
    obtain ⟨q, e, ev, eb, he, hq, hq0⟩ := hex
    have c := C j (by omega)
    have hhp := inv_pos hm0
    have hq' := q_case hq hq0
    obtain ⟨r1, r2, r3⟩ := neg_step c hhp hh ev eb he hq' (b_low (by omega) H.s0) (b_up (by omega) n2) (vv_le (by omega) (by omega)) yv
    refine ⟨n3, ?_, r1, ?_⟩
    · exact rsn_pos hM (hal (j + 1) hj) r1
    · exact keeps_succ K r2 r3
end
section
variable {h0 : Rat} {be E Q : Nat → Rat}
theorem vv_ge {M y : Int} {j : Nat} (hM : 1 ≤ M) (hy : 0 ≤ y) : 1 ≤ vv M y j := by
  have hm0 := clt (show (0 : Int) < M by omega)
  unfold vv
  have z1 := cle hy
  have := Rat.mul_nonneg (Rat.mul_nonneg (show (0 : Rat) ≤ (y : Int) by push_cast at z1; grind) (show (0 : Rat) ≤ 1 / 2 ^ j by have := inv_pos (two_pos j); grind)) (show (0 : Rat) ≤ 1 / M by have := inv_pos hm0; push_cast at *; grind)
  grind
theorem rsn_nonneg {y : Int} (j : Nat) (hy : 0 ≤ y) : 0 ≤ rsn y j := by
  have r := (rsn_low (y := y) j).1
  have z1 := cle hy
  have := Rat.mul_nonneg (show (0 : Rat) ≤ (y : Int) by push_cast at z1; grind) (show (0 : Rat) ≤ 1 / 2 ^ j by have := inv_pos (two_pos j); grind)
  have : ((-1 : Int) : Rat) < ((rsn y j : Int) : Rat) := by push_cast; grind
  have := Rat.intCast_lt_intCast.mp this
  omega
theorem pos_chain (C : ∀ j, j < 10 → PosOK h0 (2 ^ j) (1 / 2 ^ j) (if j = 0 then 0 else 1 / 2) (be j) (be (j + 1)) (E j) (Q j)) (hbe0 : be 0 = 10)
    {M x : Int} (hM : 1 ≤ M) (hh : 1 / (M : Rat) ≤ h0) (hx : M < x) (hx10 : x ≤ 10 * M) : ∀ j, j ≤ 10 →
    1 ≤ iterY M (x - M) j ∧ 1 ≤ M + rsn (iterY M (x - M) j) j ∧ vv M (iterY M (x - M) j) j ≤ be j ∧ Keeps M x (iterY M (x - M) j) j (Bs E j) := by
  intro j
  have hm0 := clt (show (0 : Int) < M by omega)
  induction j with
  | zero =>
    intro _
    have hv : vv M (x - M) 0 ≤ be 0 := by rw [hbe0]; exact v0_up hM hx10
    refine ⟨by show 1 ≤ x - M; omega, ?_, hv, keeps_zero (by omega)⟩
    have := rsn_nonneg 0 (show 0 ≤ x - M by omega)
    show 1 ≤ M + rsn (x - M) (0 : Nat)
    omega
  | succ j ih =>
    intro hj
    obtain ⟨y1, yp, yv, K⟩ := ih (by omega)
    have H := halving_of (show 1 ≤ M by omega) yp
    have et : ((j : Int).toNat) = j := by omega
    rw [et] at H
    obtain ⟨n1, n2, n3⟩ := H.poss y1
    show 1 ≤ iterY M (x - M) (j + 1) ∧ _
    have ei : iterY M (x - M) (j + 1) = stepY M (iterY M (x - M) j) j := rfl
    rw [ei]
    generalize iterY M (x - M) j = y at *
    have hex := Halving.rat H (h := 1 / M) (k := 1 / 2 ^ j) (v := vv M y j) (a := vv M (stepY M y j) (j + 1)) (b := (sqN (M * (M + rsn y j)) M : Int) * (1 / (M : Rat))) rfl (by rw [cast_two]) rfl (a_eq j) rfl
    obtain ⟨q, e, ev, eb, he, hq, hq0⟩ := hex
    have c := C j (by omega)
    have hhp := inv_pos hm0
    have hq' := q_case hq hq0
    obtain ⟨r1, r2, r3⟩ := pos_step c hhp hh ev eb he hq' (b_ge hM n2) (vv_ge hM (by omega)) yv
    refine ⟨n3, ?_, r1, ?_⟩
    · have := rsn_nonneg (j + 1) (show 0 ≤ stepY M y j by omega)
      omega
    · exact keeps_succ K r2 r3
end
end Lg

namespace Lg
def nA_al (j : Nat) : Rat := ([1/10, 2955397/10000000, 5323209/10000000, 905583/1250000, 8486953/10000000, 4600183/5000000, 4792913/5000000, 9787701/10000000, 123647/125000, 4972483/5000000, 4986029/5000000] : List Rat).getD j 0
def nA_E (j : Nat) : Rat := ([2053/500, 3337/1000, 2233/1000, 1841/1000, 1679/1000, 161/100, 1583/1000, 1577/1000, 791/500, 1591/1000] : List Rat).getD j 0
def nA_p0 (j : Nat) : Rat := ([519/10000, 5603/10000, 2941/5000, 6053/10000, 6149/10000, 6197/10000, 6223/10000, 6237/10000, 6243/10000, 6247/10000] : List Rat).getD j 0
def nA_p1 (j : Nat) : Rat := ([5963/10000, 2131/10000, 1683/10000, 293/2000, 1357/10000, 261/2000, 639/5000, 79/625, 629/5000, 627/5000] : List Rat).getD j 0
theorem nA_ok : ∀ j, j < 10 → NegOK (1 / 40) (2 ^ j) (1 / 2 ^ j) (if j = 0 then 0 else 1 / 2) (nA_al j) (nA_al (j + 1)) (nA_E j) (nA_p0 j) (nA_p1 j) := by decide +kernel
theorem nA_low : ∀ j, j ≤ 10 → 1 / 10 ≤ nA_al j := by decide +kernel
def nB_al (j : Nat) : Rat := ([1/10, 3099653/10000000, 1383519/2500000, 3712039/5000000, 4304563/5000000, 4637511/5000000, 9628949/10000000, 2452963/2500000, 1981009/2000000, 9952191/10000000, 9975957/10000000] : List Rat).getD j 0
def nB_E (j : Nat) : Rat := ([1729/500, 1463/500, 2021/1000, 843/500, 1543/1000, 739/500, 1449/1000, 359/250, 179/125, 179/125] : List Rat).getD j 0
def nB_p0 (j : Nat) : Rat := ([279/5000, 2817/5000, 1477/2500, 6069/10000, 3079/5000, 6203/10000, 6227/10000, 3119/5000, 1561/2500, 6247/10000] : List Rat).getD j 0
def nB_p1 (j : Nat) : Rat := ([5837/10000, 1037/5000, 103/625, 723/5000, 1347/10000, 1299/10000, 51/400, 1263/10000, 1257/10000, 627/5000] : List Rat).getD j 0
theorem nB_ok : ∀ j, j < 10 → NegOK (1 / 128) (2 ^ j) (1 / 2 ^ j) (if j = 0 then 0 else 1 / 2) (nB_al j) (nB_al (j + 1)) (nB_E j) (nB_p0 j) (nB_p1 j) := by decide +kernel
theorem nB_low : ∀ j, j ≤ 10 → 1 / 10 ≤ nB_al j := by decide +kernel
def pA_be (j : Nat) : Rat := ([10, 3212539/1000000, 1822113/1000000, 683271/500000, 294511/250000, 5451/5000, 1046671/1000000, 204881/200000, 1012829/1000000, 25169/25000, 501783/500000] : List Rat).getD j 0
def pA_E (j : Nat) : Rat := ([569/1000, 737/1000, 1029/1000, 1263/1000, 143/100, 389/250, 1657/1000, 349/200, 457/250, 1909/1000] : List Rat).getD j 0
def pA_Q (j : Nat) : Rat := ([1921/2500, 2073/2500, 7977/10000, 781/1000, 3861/5000, 1919/2500, 1913/2500, 7639/10000, 477/625, 1907/2500] : List Rat).getD j 0
theorem pA_ok : ∀ j, j < 10 → PosOK (1 / 12) (2 ^ j) (1 / 2 ^ j) (if j = 0 then 0 else 1 / 2) (pA_be j) (pA_be (j + 1)) (pA_E j) (pA_Q j) := by decide +kernel
def pB_be (j : Nat) : Rat := ([10, 316691/100000, 891139/500000, 267299/200000, 289211/250000, 537983/500000, 1037491/1000000, 254669/250000, 1009347/1000000, 1004689/1000000, 200471/200000] : List Rat).getD j 0
def pB_E (j : Nat) : Rat := ([66/125, 703/1000, 243/250, 579/500, 1267/1000, 1329/1000, 1363/1000, 1383/1000, 349/250, 281/200] : List Rat).getD j 0
def pB_Q (j : Nat) : Rat := ([3803/5000, 821/1000, 7869/10000, 7693/10000, 7603/10000, 3779/5000, 471/625, 1881/2500, 3759/5000, 1879/2500] : List Rat).getD j 0
theorem pB_ok : ∀ j, j < 10 → PosOK (1 / 128) (2 ^ j) (1 / 2 ^ j) (if j = 0 then 0 else 1 / 2) (pB_be j) (pB_be (j + 1)) (pB_E j) (pB_Q j) := by decide +kernel
end Lg

namespace Lg
def wDn (M ys : Int) : Nat → Int → Int
  | 0, w => w
  | k + 1, w => wDn M ys k (divN M ((k : Int) + 1) - divN (ys * w) M)
def sDn (u : Rat) : Nat → Rat → Rat
  | 0, s => s
  | k + 1, s => sDn u k (1 / ((k + 1 : Nat) : Rat) - u * s)
theorem sDn_P (u : Rat) : ∀ (k : Nat) (s : Rat), u * sDn u k s = P u k - (-u) ^ (k + 1) * s
  | 0, s => by simp only [sDn, P, Rat.pow_succ, Rat.pow_zero]; grind
  | k + 1, s => by
    rw [sDn, sDn_P u k, P, Rat.pow_succ (-u) (k + 1)]
    generalize (-u) ^ (k + 1) = X
    have : (0 : Rat) < ((k + 1 : Nat) : Rat) := npos (by omega)
    grind
theorem sDn_rows (u : Rat) {T : Nat} (hT : 1 ≤ T) : u * sDn u (T - 1) (1 / (T : Rat)) = P u T := by
  obtain ⟨k, rfl⟩ : ∃ k, T = k + 1 := ⟨T - 1, by omega⟩
  have e : k + 1 - 1 = k := by omega
  rw [e, sDn_P, P]
  grind
theorem divN_r {a b : Int} (hb : 0 < b) : Ab ((divN a b : Rat) - (a : Rat) / b) (1 / 2) := by
  obtain ⟨h1, h2⟩ := divN_facts (a := a) hb
  have h1 := cle h1
  have h2 := cle h2
  have hbr := clt hb
  push_cast at *
  have e : (b : Rat) * ((a : Rat) / b) = a := by grind
  constructor
  · refine le_of_mul hbr ?_; grind
  · have : (divN a b : Rat) ≤ 1 / 2 + (a : Rat) / b := by refine le_of_mul hbr ?_; grind
    grind
/-- one turn of the rows -/
theorem w_turn {M ys w k : Int} (hM : 1 ≤ M) (hk : 1 ≤ k) {s c us : Rat} (hus : us = ys * (1 / (M : Rat))) (hu : Ab us (1 / 128)) (h : Ab ((w : Rat) * (1 / M) - s) (1 / M * c)) :
    Ab (((divN M k - divN (ys * w) M : Int) : Rat) * (1 / M) - (1 / (k : Rat) - us * s)) (1 / M * ((if k = 1 then 0 else 1 / 2) + 1 / 2 + c / 128)) := by
  have hm := clt (show (0 : Int) < M by omega)
  have hkr := clt (show (0 : Int) < k by omega)
  have d1 : Ab ((divN M k : Rat) - (M : Rat) / k) (if k = 1 then 0 else 1 / 2) := by
    by_cases h1 : k = 1
    · subst h1
      rw [if_pos rfl]
      have e : divN M 1 = M := by
        have := divN_facts (a := M) (b := 1) (by decide); omega
      rw [e]
      push_cast
      constructor <;> grind
    · rw [if_neg h1]; exact divN_r (by omega)
  have d2 := divN_r (a := ys * w) (b := M) (by omega)
  have hmI := inv_pos hm
  have m := hu.mul h
  push_cast at *
  have hh : Ab (1 / (M : Rat)) (1 / M) := ⟨by grind, by grind⟩
  have r := ((hh.mul (d1.add d2.neg)).add m.neg)
  have e : 1 / (M : Rat) * ((divN M k : Rat) - (M : Rat) / k + -((divN (ys * w) M : Rat) - (ys : Rat) * w / M)) + -(us * ((w : Rat) * (1 / M) - s)) = ((divN M k : Rat) - (divN (ys * w) M : Rat)) * (1 / M) - (1 / (k : Rat) - us * s) := by
    rw [hus]
    have e1 : (M : Rat) / k = M * (1 / k) := by grind
    rw [e1]
    have e2 : 1 / (M : Rat) * (M * (1 / k)) = 1 / k := by grind
    grind
  rw [e] at r
  refine r.le ?_
  generalize (if k = 1 then (0 : Rat) else 1 / 2) = z
  grind
theorem w_all {M ys : Int} (hM : 1 ≤ M) {us : Rat} (hus : us = ys * (1 / (M : Rat))) (hu : Ab us (1 / 128)) : ∀ (k : Nat) (w : Int) (s : Rat), Ab ((w : Rat) * (1 / M) - s) (1 / M * (128 / 127)) →
    Ab ((wDn M ys (k + 1) w : Rat) * (1 / M) - sDn us (k + 1) s) (1 / M * (1 / 2 + 1 / 127))
  | 0, w, s, h => by
    have t := w_turn hM (k := 1) (by decide) hus hu h
    simp only [wDn, sDn]
    rw [if_pos rfl] at t
    have e : ((0 + 1 : Nat) : Rat) = ((1 : Int) : Rat) := by push_cast; grind
    rw [e]
    refine t.le ?_
    have := inv_pos (clt (show (0 : Int) < M by omega))
    push_cast at *
    grind
  | k + 1, w, s, h => by
    have t := w_turn hM (k := ((k + 1 : Nat) : Int) + 1) (by omega) hus hu h
    rw [wDn, sDn]
    have e : ((k + 1 + 1 : Nat) : Rat) = ((((k + 1 : Nat) : Int) + 1 : Int) : Rat) := by push_cast; rfl
    rw [e]
    refine w_all hM hus hu k _ _ (t.le ?_)
    have := inv_pos (clt (show (0 : Int) < M by omega))
    rw [if_neg (by omega)]
    push_cast at *
    have e2 : (1 / 2 + 1 / 2 + 128 / 127 / 128 : Rat) = 128 / 127 := by grind
    rw [e2]
    exact Rat.le_refl
/-- the rows at two places -/
theorem lip {u1 u2 d : Rat} (h1 : Ab u1 (1 / 128)) (h2 : Ab u2 (1 / 128)) (hd : Ab (u1 - u2) d) : ∀ (k : Nat) (s1 s2 : Rat), Ab s1 (101 / 100 * (1 / ((k + 1 : Nat) : Rat))) → Ab (s1 - s2) (d * (102 / 100 * (1 / ((k + 2 : Nat) : Rat)))) →
    Ab (sDn u1 k s1 - sDn u2 k s2) (d * (51 / 100))
  | 0, s1, s2, _, g => by
    simp only [sDn]
    refine g.le ?_
    have e : ((0 + 2 : Nat) : Rat) = 2 := by push_cast; grind
    rw [e]
    have := hd.nn
    grind
  | k + 1, s1, s2, g1, g => by
    rw [sDn, sDn]
    have d0 := hd.nn
    have e1 : ((k + 1 : Nat) : Rat) = (k : Rat) + 1 := by push_cast; rfl
    have e2 : ((k + 2 : Nat) : Rat) = (k : Rat) + 2 := by push_cast; rfl
    have e3 : ((k + 1 + 1 : Nat) : Rat) = (k : Rat) + 2 := by push_cast; grind
    have e4 : ((k + 1 + 2 : Nat) : Rat) = (k : Rat) + 3 := by push_cast; grind
    have hk : (0 : Rat) ≤ (k : Rat) := by exact_mod_cast Nat.zero_le k
    rw [e3] at g1
    rw [e4] at g
    have i12 := inv_le (show (0 : Rat) < (k : Rat) + 1 by grind) (show (k : Rat) + 1 ≤ (k : Rat) + 2 by grind)
    have i23 := inv_le (show (0 : Rat) < (k : Rat) + 2 by grind) (show (k : Rat) + 2 ≤ (k : Rat) + 3 by grind)
    have i1 := inv_pos (show (0 : Rat) < (k : Rat) + 1 by grind)
    have i2 := inv_pos (show (0 : Rat) < (k : Rat) + 2 by grind)
    have i3 := inv_pos (show (0 : Rat) < (k : Rat) + 3 by grind)
    refine lip h1 h2 hd k _ _ ?_ ?_
    · rw [e1]
      have m := h1.mul g1
      generalize 1 / ((k : Rat) + 1) = x1 at *
      generalize 1 / ((k : Rat) + 2) = x2 at *
      have x : Ab x1 x1 := ⟨by grind, by grind⟩
      have r := x.add m.neg
      have e : x1 + -(u1 * s1) = x1 - u1 * s1 := by grind
      rw [e] at r
      refine r.le ?_
      grind
    · rw [e2]
      have m1 := hd.mul g1
      have m2 := h2.mul g
      generalize 1 / ((k : Rat) + 2) = x2 at *
      generalize 1 / ((k : Rat) + 3) = x3 at *
      have r := (m1.add m2).neg
      generalize hx : 1 / ((k + 1 : Nat) : Rat) = x1
      have e : -((u1 - u2) * s1 + u2 * (s1 - s2)) = x1 - u1 * s1 - (x1 - u2 * s2) := by grind
      rw [e] at r
      refine r.le ?_
      have := Rat.mul_le_mul_of_nonneg_left i23 d0
      have := Rat.mul_nonneg d0 (show 0 ≤ x2 by grind)
      grind
theorem sDn_low {u : Rat} (h : Ab u (1 / 128)) : ∀ (k : Nat) (s : Rat), Ab s (101 / 100 * (1 / ((k + 1 : Nat) : Rat))) → (k = 0 → 99 / 100 ≤ s) → 99 / 100 ≤ sDn u k s
  | 0, s, _, h0 => by simpa only [sDn] using h0 rfl
  | k + 1, s, g, _ => by
    rw [sDn]
    have e1 : ((k + 1 : Nat) : Rat) = (k : Rat) + 1 := by push_cast; rfl
    have e3 : ((k + 1 + 1 : Nat) : Rat) = (k : Rat) + 2 := by push_cast; grind
    have hk : (0 : Rat) ≤ (k : Rat) := by exact_mod_cast Nat.zero_le k
    have i12 := inv_le (show (0 : Rat) < (k : Rat) + 1 by grind) (show (k : Rat) + 1 ≤ (k : Rat) + 2 by grind)
    have i1 := inv_pos (show (0 : Rat) < (k : Rat) + 1 by grind)
    have i2 := inv_pos (show (0 : Rat) < (k : Rat) + 2 by grind)
    rw [e3] at g
    have m := h.mul g
    refine sDn_low h k _ ?_ ?_
    · rw [e1]
      generalize 1 / ((k : Rat) + 1) = x1 at *
      generalize 1 / ((k : Rat) + 2) = x2 at *
      have x : Ab x1 x1 := ⟨by grind, by grind⟩
      have r := x.add m.neg
      have e : x1 + -(u * s) = x1 - u * s := by grind
      rw [e] at r
      refine r.le ?_
      grind
    · intro hk0
      subst hk0
      have y := inv_le (show (0 : Rat) < 2 by grind) (show (2 : Rat) ≤ ((0 : Nat) : Rat) + 2 by push_cast; grind)
      obtain ⟨_, b⟩ := m
      have e : 1 / ((0 + 1 : Nat) : Rat) = 1 := by push_cast; grind
      rw [e]
      grind
end Lg

namespace Lg
def ilogFin (M y R : Int) (T : Nat) : Int := divN (wDn M (rsn y R) (T - 1) (divN M T) * y) M
theorem pow_le_sq {g : Rat} (h0 : 0 ≤ g) (h1 : g ≤ 1) {T : Nat} (hT : 2 ≤ T) : g ^ T ≤ g * g := by
  obtain ⟨k, rfl⟩ : ∃ k, T = k + 2 := ⟨T - 2, by omega⟩
  have p := pow_le_pow h0 h1 k
  rw [one_pow] at p
  rw [Rat.pow_succ, Rat.pow_succ]
  have := Rat.mul_le_mul_of_nonneg_left p (Rat.mul_nonneg h0 h0)
  grind
/-- the rows left out -/
theorem rows_tr {u c : Rat} (hc : c ≤ 1 / 256) (hu : Ab u c) (T : Nat) :
    LO (P u T - c ^ T * c * (1 / ((T + 1 : Nat) : Rat) + 1 / 255)) (1 + u) ∧ UP (P u T + c ^ T * c * (1 / ((T + 1 : Nat) : Rat) + 1 / 255)) (1 + u) := by
  have c0 := hu.nn
  have l := LO.rows (by grind) hu (T + 1)
  have r := UP.rows (by grind) hu (T + 1)
  have hk := inv_pos (npos (show 0 < T + 1 by omega))
  have a := hu.neg.pow (T + 1)
  have b : Ab (1 / ((T + 1 : Nat) : Rat)) (1 / ((T + 1 : Nat) : Rat)) := ⟨by grind, by grind⟩
  have ab := a.mul b
  have e : P u (T + 1) = P u T - (-u) ^ (T + 1) * (1 / ((T + 1 : Nat) : Rat)) := by rw [P]; grind
  have hX := pow_nonneg c0 T
  have i := inv_le (show (0 : Rat) < 255 / 256 by grind) (show 255 / 256 ≤ 1 - c by grind)
  rw [e] at l r
  rw [Rat.pow_succ c T] at ab
  have e2 : c ^ (T + 1 + 1) / (1 - c) = c ^ T * c * c * (1 / (1 - c)) := by rw [Rat.pow_succ, Rat.pow_succ]; grind
  rw [e2] at l r
  have m : c ^ T * c * (c * (1 / (1 - c))) ≤ c ^ T * c * (1 / 255) := by
    refine Rat.mul_le_mul_of_nonneg_left ?_ (Rat.mul_nonneg hX c0)
    have := mul_le_mul hc i c0 (by grind)
    grind
  generalize 1 / (1 - c) = w at *
  generalize 1 / ((T + 1 : Nat) : Rat) = k at *
  generalize c ^ T = X at *
  generalize (-u) ^ (T + 1) * k = Z at *
  obtain ⟨z1, z2⟩ := ab
  constructor
  · refine l.mono ?_ (Rat.le_refl); grind
  · refine r.mono ?_ (Rat.le_refl); grind
section
variable {M y : Int} {R T : Nat} {Y fin : Rat}
theorem u_eq (hM : 1 ≤ M) : (y : Rat) = 2 ^ R * M * ((y : Rat) * (1 / 2 ^ R) * (1 / M)) := by
  have := two_pos R
  have := clt (show (0 : Int) < M by omega)
  have e1 : (2 : Rat) ^ R * (1 / 2 ^ R) = 1 := by grind
  have e2 : (M : Rat) * (1 / M) = 1 := by push_cast at *; grind
  have : 2 ^ R * M * ((y : Rat) * (1 / 2 ^ R) * (1 / M)) = (2 ^ R * (1 / 2 ^ R)) * (M * (1 / M)) * y := by grind
  rw [this, e1, e2]; grind
/-- from a bound of the answer to bounds of the logarithm -/
theorem close {told tr : Rat} (hM : 1 ≤ M) (hu : LO (P ((y : Rat) * (1 / 2 ^ R) * (1 / M)) T - tr) (vv M y R) ∧ UP (P ((y : Rat) * (1 / 2 ^ R) * (1 / M)) T + tr) (vv M y R))
    {d : Rat} (hd : Ab (told - 2 ^ R * M * P ((y : Rat) * (1 / 2 ^ R) * (1 / M)) T) d) (hf : d + 2 ^ R * M * tr ≤ fin) :
    LO ((told - fin) * (1 / M) * (1 / 2 ^ R)) (vv M y R) ∧ UP ((told + fin) * (1 / M) * (1 / 2 ^ R)) (vv M y R) := by
  have h2 := two_pos R
  have hm := clt (show (0 : Int) < M by omega)
  push_cast at hm
  have hp := Rat.mul_pos h2 hm
  generalize P ((y : Rat) * (1 / 2 ^ R) * (1 / M)) T = PP at *
  obtain ⟨d1, d2⟩ := hd
  have e (z : Rat) : 2 ^ R * (M : Rat) * (z * (1 / M) * (1 / 2 ^ R)) = z := by
    have e1 : (2 : Rat) ^ R * (1 / 2 ^ R) = 1 := by grind
    have e2 : (M : Rat) * (1 / M) = 1 := by grind
    have : 2 ^ R * (M : Rat) * (z * (1 / M) * (1 / 2 ^ R)) = (2 ^ R * (1 / 2 ^ R)) * (M * (1 / M)) * z := by grind
    rw [this, e1, e2]; grind
  constructor
  · refine hu.1.mono (le_of_mul hp ?_) (Rat.le_refl)
    rw [e]; grind
  · refine hu.2.mono (le_of_mul hp ?_) (Rat.le_refl)
    rw [e]; grind
theorem w_facts (hM : 128 ≤ M) (hT : 1 ≤ T) (hus : Ab ((rsn y R : Rat) * (1 / M)) (1 / 128)) (hu : Ab ((y : Rat) * (1 / 2 ^ R) * (1 / M)) (1 / 128)) :
    Ab ((wDn M (rsn y R) (T - 1) (divN M T) : Rat) * (1 / M) - sDn ((y : Rat) * (1 / 2 ^ R) * (1 / M)) (T - 1) (1 / (T : Rat))) (1 / M * (763 / 1000)) ∧
    98 / 100 ≤ (wDn M (rsn y R) (T - 1) (divN M T) : Rat) * (1 / M) := by
  have hm := clt (show (0 : Int) < M by omega)
  have hmi := inv_pos hm
  have hTp := npos (show 0 < T by omega)
  have hTi := inv_pos hTp
  have w0 : Ab ((divN M T : Rat) * (1 / M) - 1 / (T : Rat)) (1 / M * (128 / 127)) := by
    have d := divN_r (a := M) (b := (T : Int)) (by omega)
    have hh : Ab (1 / (M : Rat)) (1 / M) := ⟨by grind, by grind⟩
    have r := hh.mul d
    have ec : (((T : Nat) : Int) : Rat) = (T : Rat) := by norm_cast
    rw [ec] at r
    have e : 1 / (M : Rat) * ((divN M T : Rat) - (M : Rat) / T) = (divN M T : Rat) * (1 / M) - 1 / (T : Rat) := by
      have e1 : (M : Rat) / T = M * (1 / T) := by grind
      rw [e1]
      have e2 : 1 / (M : Rat) * (M * (1 / T)) = 1 / T := by push_cast at *; grind
      grind
    rw [e] at r
    refine r.le ?_
    grind
  have wl : Ab ((wDn M (rsn y R) (T - 1) (divN M T) : Rat) * (1 / M) - sDn ((rsn y R : Rat) * (1 / M)) (T - 1) (1 / (T : Rat))) (1 / M * (1 / 2 + 1 / 127)) := by
    rcases Nat.lt_or_ge 1 T with h | h
    · have := w_all (show 1 ≤ M by omega) (us := (rsn y R : Rat) * (1 / M)) (ys := rsn y R) rfl hus (T - 2) (divN M T) (1 / (T : Rat)) w0
      rwa [show T - 2 + 1 = T - 1 by omega] at this
    · have h1 : T = 1 := by omega
      subst h1
      simp only [Nat.sub_self, wDn, sDn]
      have e : divN M ((1 : Nat) : Int) = M := by
        have := divN_facts (a := M) (b := ((1 : Nat) : Int)) (by decide); omega
      rw [e]
      have e2 : (M : Rat) * (1 / M) = 1 := by push_cast at *; grind
      rw [e2]
      push_cast at *
      constructor <;> grind
  have du : Ab ((rsn y R : Rat) * (1 / M) - (y : Rat) * (1 / 2 ^ R) * (1 / M)) (1 / M * (1 / 2)) := by
    obtain ⟨r1, r2⟩ := rsn_low (y := y) R
    have x : Ab ((rsn y R : Rat) - (y : Rat) * (1 / 2 ^ R)) (1 / 2) := ⟨by grind, by grind⟩
    have hh : Ab (1 / (M : Rat)) (1 / M) := ⟨by grind, by grind⟩
    have r := hh.mul x
    have e : 1 / (M : Rat) * ((rsn y R : Rat) - (y : Rat) * (1 / 2 ^ R)) = (rsn y R : Rat) * (1 / M) - (y : Rat) * (1 / 2 ^ R) * (1 / M) := by grind
    rwa [e] at r
  have eT : ((T - 1 + 1 : Nat) : Rat) = (T : Rat) := by congr 1; omega
  have sT : Ab (1 / (T : Rat)) (101 / 100 * (1 / ((T - 1 + 1 : Nat) : Rat))) := by
    rw [eT]; constructor <;> grind
  have i2 := inv_pos (npos (show 0 < T - 1 + 2 by omega))
  have lp := lip hus hu du (T - 1) (1 / (T : Rat)) (1 / (T : Rat)) sT (by
    have := Rat.mul_nonneg (show 0 ≤ 1 / (M : Rat) by grind) (show 0 ≤ 1 / ((T - 1 + 2 : Nat) : Rat) by grind)
    constructor <;> grind)
  have lw := sDn_low hus (T - 1) (1 / (T : Rat)) sT (by
    intro h
    have : T = 1 := by omega
    subst this
    push_cast; grind)
  constructor
  · have r := wl.add lp
    have e : (wDn M (rsn y R) (T - 1) (divN M T) : Rat) * (1 / M) - sDn ((rsn y R : Rat) * (1 / M)) (T - 1) (1 / (T : Rat)) + (sDn ((rsn y R : Rat) * (1 / M)) (T - 1) (1 / (T : Rat)) - sDn ((y : Rat) * (1 / 2 ^ R) * (1 / M)) (T - 1) (1 / (T : Rat))) = (wDn M (rsn y R) (T - 1) (divN M T) : Rat) * (1 / M) - sDn ((y : Rat) * (1 / 2 ^ R) * (1 / M)) (T - 1) (1 / (T : Rat)) := by grind
    rw [e] at r
    refine r.le ?_
    grind
  · obtain ⟨x1, x2⟩ := wl
    have : 1 / (M : Rat) ≤ 1 / 128 := by
      have hc := cle hM
      push_cast at *
      exact inv_le (by grind) hc
    grind
theorem fin_big (hM : 128 ≤ M) (hT : 2 ≤ T) (hMT : (M : Rat) ≤ 256 ^ T) (hY : Ab ((y : Rat) * (1 / M)) Y) (hYR : 256 * Y ≤ 2 ^ R)
    (hfin : 1 / 2 + Y * (763 / 1000) + Y * ((256 * Y * (1 / 2 ^ R)) * (256 * Y * (1 / 2 ^ R))) * (1 / 3 + 1 / 255) ≤ fin) :
    LO ((ilogFin M y R T - fin) * (1 / M) * (1 / 2 ^ R)) (vv M y R) ∧ UP ((ilogFin M y R T + fin) * (1 / M) * (1 / 2 ^ R)) (vv M y R) ∧
    (1 ≤ y → 1 ≤ ilogFin M y R T) ∧ (y ≤ -1 → ilogFin M y R T ≤ -1) := by
  have hm := clt (show (0 : Int) < M by omega)
  have hmc := cle hM
  push_cast at hm hmc
  have hmi := inv_pos hm
  have h2 := two_pos R
  have h2i := inv_pos h2
  have Y0 := hY.nn
  have hmi2 : 1 / (M : Rat) ≤ 1 / 128 := inv_le (by grind) hmc
  -- u
  have uc : Ab ((y : Rat) * (1 / 2 ^ R) * (1 / M)) (Y * (1 / 2 ^ R)) := by
    have x : Ab (1 / 2 ^ R : Rat) (1 / 2 ^ R) := ⟨by grind, by grind⟩
    have r := hY.mul x
    have e : (y : Rat) * (1 / M) * (1 / 2 ^ R) = (y : Rat) * (1 / 2 ^ R) * (1 / M) := by grind
    rwa [e] at r
  have c256 : Y * (1 / 2 ^ R) ≤ 1 / 256 := by
    refine le_of_mul h2 ?_
    have : (2 : Rat) ^ R * (Y * (1 / 2 ^ R)) = Y := by grind
    grind
  have hu := uc.le (show Y * (1 / 2 ^ R) ≤ 1 / 128 by grind)
  have hus : Ab ((rsn y R : Rat) * (1 / M)) (1 / 128) := by
    obtain ⟨r1, r2⟩ := rsn_low (y := y) R
    have x : Ab ((rsn y R : Rat) - (y : Rat) * (1 / 2 ^ R)) (1 / 2) := ⟨by grind, by grind⟩
    have hh : Ab (1 / (M : Rat)) (1 / M) := ⟨by grind, by grind⟩
    have r := (hh.mul x).add uc
    have e : 1 / (M : Rat) * ((rsn y R : Rat) - (y : Rat) * (1 / 2 ^ R)) + (y : Rat) * (1 / 2 ^ R) * (1 / M) = (rsn y R : Rat) * (1 / M) := by grind
    rw [e] at r
    exact r.le (by grind)
  obtain ⟨wf, wl⟩ := w_facts hM (show 1 ≤ T by omega) hus hu
  have dn := divN_r (a := wDn M (rsn y R) (T - 1) (divN M T) * y) (b := M) (by omega)
  have eP := sDn_rows ((y : Rat) * (1 / 2 ^ R) * (1 / M)) (show 1 ≤ T by omega)
  have eu := u_eq (y := y) (R := R) (show 1 ≤ M by omega)
  have rt := rows_tr c256 uc T
  have i3 : 1 / ((T + 1 : Nat) : Rat) ≤ 1 / 3 := by
    have : ((3 : Nat) : Rat) ≤ ((T + 1 : Nat) : Rat) := Rat.natCast_le_natCast.mpr (by omega)
    have e3 : ((3 : Nat) : Rat) = 3 := by push_cast; rfl
    rw [e3] at this
    exact inv_le (by grind) this
  -- M c^T
  have mc : (M : Rat) * (Y * (1 / 2 ^ R)) ^ T ≤ (256 * Y * (1 / 2 ^ R)) * (256 * Y * (1 / 2 ^ R)) := by
    have p0 := pow_nonneg uc.nn T
    have a := Rat.mul_le_mul_of_nonneg_left hMT p0
    have b : (Y * (1 / 2 ^ R)) ^ T * 256 ^ T = (256 * Y * (1 / 2 ^ R)) ^ T := by
      rw [← mul_pow]; congr 1; grind
    rw [b] at a
    have c := pow_le_sq (g := 256 * Y * (1 / 2 ^ R)) (by have := uc.nn; grind) (by grind) hT
    grind
  have hvv : vv M y R = 1 + (y : Rat) * (1 / 2 ^ R) * (1 / M) := rfl
  unfold ilogFin
  rw [← hvv] at rt
  have dd : Ab ((divN (wDn M (rsn y R) (T - 1) (divN M T) * y) M : Rat) - 2 ^ R * M * P ((y : Rat) * (1 / 2 ^ R) * (1 / M)) T) (1 / 2 + Y * (763 / 1000)) := by
    have m := hY.mul (wf)
    have e1 : 2 ^ R * (M : Rat) * P ((y : Rat) * (1 / 2 ^ R) * (1 / M)) T = y * sDn ((y : Rat) * (1 / 2 ^ R) * (1 / M)) (T - 1) (1 / (T : Rat)) := by
      rw [← eP]
      have : 2 ^ R * (M : Rat) * ((y : Rat) * (1 / 2 ^ R) * (1 / M) * sDn ((y : Rat) * (1 / 2 ^ R) * (1 / M)) (T - 1) (1 / (T : Rat))) = (2 ^ R * M * ((y : Rat) * (1 / 2 ^ R) * (1 / M))) * sDn ((y : Rat) * (1 / 2 ^ R) * (1 / M)) (T - 1) (1 / (T : Rat)) := by grind
      rw [this, ← eu]
    rw [e1]
    generalize sDn ((y : Rat) * (1 / 2 ^ R) * (1 / M)) (T - 1) (1 / (T : Rat)) = S at *
    generalize wDn M (rsn y R) (T - 1) (divN M T) = w at *
    push_cast at dn
    have k : Ab ((y : Rat) * (w * (1 / M) - S)) (Y * (763 / 1000)) := by
      have hM1 : Ab (M : Rat) M := ⟨by grind, by grind⟩
      have r := m.mul hM1
      have e2 : (y : Rat) * (1 / M) * (w * (1 / M) - S) * M = (y : Rat) * (w * (1 / M) - S) := by grind
      have e3 : Y * (1 / M * (763 / 1000)) * M = Y * (763 / 1000) := by grind
      rwa [e2, e3] at r
    have r := dn.add k
    have e4 : (divN (w * y) M : Rat) - w * y / M + (y : Rat) * (w * (1 / M) - S) = (divN (w * y) M : Rat) - y * S := by grind
    rwa [e4] at r
  have cl := close (fin := fin) (show 1 ≤ M by omega) rt dd (by
    refine Rat.le_trans ?_ hfin
    have t0 := Rat.mul_le_mul_of_nonneg_left (show 1 / ((T + 1 : Nat) : Rat) + 1 / 255 ≤ 1 / 3 + 1 / 255 by grind) (Rat.mul_nonneg Y0 (Rat.mul_nonneg (show (0 : Rat) ≤ M by grind) (pow_nonneg uc.nn T)))
    have t1 := Rat.mul_le_mul_of_nonneg_left mc Y0
    have e5 : 2 ^ R * (M : Rat) * ((Y * (1 / 2 ^ R)) ^ T * (Y * (1 / 2 ^ R)) * (1 / ((T + 1 : Nat) : Rat) + 1 / 255)) = Y * (M * (Y * (1 / 2 ^ R)) ^ T) * (1 / ((T + 1 : Nat) : Rat) + 1 / 255) := by
      have e6 : (2 : Rat) ^ R * (1 / 2 ^ R) = 1 := by grind
      have : 2 ^ R * (M : Rat) * ((Y * (1 / 2 ^ R)) ^ T * (Y * (1 / 2 ^ R)) * (1 / ((T + 1 : Nat) : Rat) + 1 / 255)) = (2 ^ R * (1 / 2 ^ R)) * (Y * (M * (Y * (1 / 2 ^ R)) ^ T) * (1 / ((T + 1 : Nat) : Rat) + 1 / 255)) := by grind
      rw [this, e6]; grind
    rw [e5]
    generalize (Y * (1 / 2 ^ R)) ^ T = X at *
    generalize 256 * Y * (1 / 2 ^ R) = g at *
    grind)
  have hw2 : M < 2 * wDn M (rsn y R) (T - 1) (divN M T) := by
    generalize wDn M (rsn y R) (T - 1) (divN M T) = w at *
    have m := Rat.mul_le_mul_of_nonneg_left wl (show (0 : Rat) ≤ M by grind)
    have : (M : Rat) * (w * (1 / M)) = w := by grind
    have : (M : Rat) < 2 * w := by grind
    have : ((M : Int) : Rat) < ((2 * w : Int) : Rat) := by push_cast; grind
    exact Rat.intCast_lt_intCast.mp this
  refine ⟨cl.1, cl.2, fun hy => ?_, fun hy => ?_⟩
  · generalize wDn M (rsn y R) (T - 1) (divN M T) = w at *
    have f := divN_facts (a := w * y) (b := M) (by omega)
    have := Int.mul_le_mul_of_nonneg_left hy (show 0 ≤ w by omega)
    rcases Int.lt_or_le (divN (w * y) M) 1 with x | x
    · have := Int.mul_nonneg (show 0 ≤ M by omega) (show 0 ≤ -(divN (w * y) M) by omega)
      rw [Int.mul_neg] at this
      omega
    · exact x
  · generalize wDn M (rsn y R) (T - 1) (divN M T) = w at *
    have f := divN_facts (a := w * y) (b := M) (by omega)
    have := Int.mul_le_mul_of_nonneg_left hy (show 0 ≤ w by omega)
    rcases Int.lt_or_le (-1) (divN (w * y) M) with x | x
    · have := Int.mul_nonneg (show 0 ≤ M by omega) (show 0 ≤ divN (w * y) M by omega)
      omega
    · exact x
end
end Lg

namespace Lg
theorem wDn_zero {M : Int} (hM : 1 ≤ M) : ∀ (k : Nat) (w : Int), wDn M 0 (k + 1) w = M
  | 0, w => by
    simp only [wDn]
    have a := divN_facts (a := M) (b := 1) (by decide)
    have b := divN_facts (a := 0 * w) (b := M) (by omega)
    have e : divN M (((0 : Nat) : Int) + 1) = divN M 1 := rfl
    have : divN (0 * w) M = 0 := by
      rw [Int.zero_mul] at *
      rcases Int.lt_trichotomy (divN 0 M) 0 with x | x | x
      · have := Int.mul_le_mul_of_nonneg_left (show divN 0 M ≤ -1 by omega) (show 0 ≤ M by omega); omega
      · exact x
      · have := Int.mul_le_mul_of_nonneg_left (show 1 ≤ divN 0 M by omega) (show 0 ≤ M by omega); omega
    rw [this, e]
    omega
  | k + 1, w => by rw [wDn]; exact wDn_zero hM k _
theorem divN_one {M : Int} : divN M ((1 : Nat) : Int) = M := by
  have := divN_facts (a := M) (b := ((1 : Nat) : Int)) (by decide); omega
theorem divN_mul {M y : Int} (hM : 1 ≤ M) : divN (M * y) M = y := by
  have b := divN_facts (a := M * y) (b := M) (by omega)
  rcases Int.lt_trichotomy (divN (M * y) M) y with x | x | x
  · have := Int.mul_le_mul_of_nonneg_left (show divN (M * y) M ≤ y - 1 by omega) (show 0 ≤ M by omega)
    rw [Int.mul_sub] at this; omega
  · exact x
  · have := Int.mul_le_mul_of_nonneg_left (show y + 1 ≤ divN (M * y) M by omega) (show 0 ≤ M by omega)
    rw [Int.mul_add] at this; omega
theorem fin_eq {M y : Int} {R T : Nat} (hM : 1 ≤ M) (hT : 1 ≤ T) (h : rsn y R = 0) : ilogFin M y R T = y := by
  unfold ilogFin
  rw [h]
  have : wDn M 0 (T - 1) (divN M T) = M := by
    rcases Nat.lt_or_ge 1 T with x | x
    · rw [show T - 1 = T - 2 + 1 by omega]; exact wDn_zero hM _ _
    · have : T = 1 := by omega
      subst this
      simp only [Nat.sub_self, wDn]
      exact divN_one
  rw [this]
  exact divN_mul hM
theorem rsn_is_zero {M y : Int} {R : Nat} (hM : M ≤ 128) (h : (y.natAbs : Int) * 256 < M * 2 ^ R) : rsn y R = 0 := by
  have r := divN_facts (a := y) (pw_pos (R : Int).toNat)
  rw [← rsn_divN] at r
  have e : ((R : Int).toNat) = R := by omega
  rw [e] at r
  have p := pw_pos R
  generalize (2 : Int) ^ R = K at *
  have m := Int.mul_le_mul_of_nonneg_right hM (show 0 ≤ K by omega)
  rcases Int.lt_trichotomy (rsn y R) 0 with x | x | x
  · have := Int.mul_le_mul_of_nonneg_left (show rsn y R ≤ -1 by omega) (show 0 ≤ K by omega); omega
  · exact x
  · have := Int.mul_le_mul_of_nonneg_left (show 1 ≤ rsn y R by omega) (show 0 ≤ K by omega); omega
theorem fin_small {M y : Int} {R : Nat} {Y fin : Rat} (hM : 1 ≤ M) (hY : Ab ((y : Rat) * (1 / M)) Y) (hYR : 256 * Y ≤ 2 ^ R)
    (hfin : M * Y * (Y * (1 / 2 ^ R)) * (1 / 2 + 1 / 255) ≤ fin) :
    LO ((y - fin) * (1 / M) * (1 / 2 ^ R)) (vv M y R) ∧ UP ((y + fin) * (1 / M) * (1 / 2 ^ R)) (vv M y R) := by
  have hm := clt (show (0 : Int) < M by omega)
  push_cast at hm
  have h2 := two_pos R
  have h2i := inv_pos h2
  have uc : Ab ((y : Rat) * (1 / 2 ^ R) * (1 / M)) (Y * (1 / 2 ^ R)) := by
    have x : Ab (1 / 2 ^ R : Rat) (1 / 2 ^ R) := ⟨by grind, by grind⟩
    have r := hY.mul x
    have e : (y : Rat) * (1 / M) * (1 / 2 ^ R) = (y : Rat) * (1 / 2 ^ R) * (1 / M) := by grind
    rwa [e] at r
  have c256 : Y * (1 / 2 ^ R) ≤ 1 / 256 := by
    refine le_of_mul h2 ?_
    have : (2 : Rat) ^ R * (Y * (1 / 2 ^ R)) = Y := by grind
    grind
  have rt := rows_tr c256 uc 1
  have hvv : vv M y R = 1 + (y : Rat) * (1 / 2 ^ R) * (1 / M) := rfl
  rw [← hvv] at rt
  have eu := u_eq (y := y) (R := R) (show 1 ≤ M by omega)
  refine close (told := (y : Rat)) (d := 0) hM rt ?_ ?_
  · have e1 : P ((y : Rat) * (1 / 2 ^ R) * (1 / M)) 1 = (y : Rat) * (1 / 2 ^ R) * (1 / M) := by
      simp only [P, Rat.pow_succ, Rat.pow_zero]
      push_cast
      grind
    rw [e1, ← eu]
    constructor <;> grind
  · refine Rat.le_trans ?_ hfin
    have e6 : (2 : Rat) ^ R * (1 / 2 ^ R) = 1 := by grind
    have ec : ((1 + 1 : Nat) : Rat) = 2 := by push_cast; grind
    rw [ec]
    have ep : (Y * (1 / 2 ^ R)) ^ 1 = Y * (1 / 2 ^ R) := by rw [Rat.pow_succ, Rat.pow_zero]; grind
    rw [ep]
    have : (0 : Rat) + 2 ^ R * M * (Y * (1 / 2 ^ R) * (Y * (1 / 2 ^ R)) * (1 / 2 + 1 / 255)) = (2 ^ R * (1 / 2 ^ R)) * (M * Y * (Y * (1 / 2 ^ R)) * (1 / 2 + 1 / 255)) := by grind
    rw [this, e6]
    grind
/-- what the halvings keep and what the rows give, put together -/
theorem combine {M x y : Int} {R : Nat} {B fin far told : Rat} (hM : 1 ≤ M) (K : Keeps M x y R B)
    (cl : LO ((told - fin) * (1 / M) * (1 / 2 ^ R)) (vv M y R) ∧ UP ((told + fin) * (1 / M) * (1 / 2 ^ R)) (vv M y R)) (h : B + fin ≤ far) :
    LO ((told - far) * (1 / M)) ((x : Rat) / M) ∧ UP ((told + far) * (1 / M)) ((x : Rat) / M) := by
  have hm := inv_pos (clt (show (0 : Int) < M by omega))
  have h2 := two_pos R
  have e6 : (2 : Rat) ^ R * (1 / 2 ^ R) = 1 := by grind
  have e (z : Rat) : (2 : Rat) ^ R * (z * (1 / M) * (1 / 2 ^ R)) = z * (1 / M) := by
    have : (2 : Rat) ^ R * (z * (1 / M) * (1 / 2 ^ R)) = (2 ^ R * (1 / 2 ^ R)) * (z * (1 / M)) := by grind
    rw [this, e6]; grind
  have m := Rat.mul_le_mul_of_nonneg_left h (show (0 : Rat) ≤ 1 / M by push_cast at *; grind)
  constructor
  · refine (K.1 _ cl.1).mono ?_ (Rat.le_refl)
    rw [e]; grind
  · refine (K.2 _ cl.2).mono ?_ (Rat.le_refl)
    rw [e]; grind
theorem Bs_mono {E : Nat → Rat} (hE : ∀ j, j < 10 → 0 ≤ E j) : ∀ j, j ≤ 10 → Bs E j ≤ Bs E 10 := by
  have step : ∀ i, i ≤ 10 → Bs E (10 - i) ≤ Bs E 10 := by
    intro i
    induction i with
    | zero => intro _; exact Rat.le_refl
    | succ i ih =>
      intro hi
      have a := ih (by omega)
      have e : 10 - i = (10 - (i + 1)) + 1 := by omega
      rw [e, Bs] at a
      have := hE (10 - (i + 1)) (by omega)
      grind
  intro j hj
  have := step (10 - j) (by omega)
  rwa [show 10 - (10 - j) = j by omega] at this
/-- the loop's test, as the program asks it -/
def Again (M y : Int) (R : Nat) : Prop := M * 2 ^ R ≤ (y.natAbs : Int) * 256
theorem y_of_not {M y : Int} {R : Nat} (hM : 1 ≤ M) (h : ¬ Again M y R) : Ab ((y : Rat) * (1 / M)) (2 ^ R * (1 / 256)) := by
  have hm := clt (show (0 : Int) < M by omega)
  unfold Again at h
  have h1 : y * 256 ≤ M * 2 ^ R := by omega
  have h2 : -(M * 2 ^ R) ≤ y * 256 := by omega
  have h1 := cle h1
  have h2 := cle h2
  push_cast at *
  constructor
  · refine le_of_mul hm ?_
    have : (M : Rat) * ((y : Rat) * (1 / M)) = y := by grind
    grind
  · refine le_of_mul hm ?_
    have : (M : Rat) * ((y : Rat) * (1 / M)) = y := by grind
    grind
theorem two_le {R : Nat} (h : R ≤ 9) : (2 : Rat) ^ R ≤ 512 := by
  have : ∀ r, r ≤ 9 → (2 : Rat) ^ r ≤ 512 := by decide +kernel
  exact this R h
end Lg

namespace Lg
def Good (M x told : Int) (far : Rat) : Prop := LO (((told : Rat) - far) * (1 / M)) ((x : Rat) / M) ∧ UP (((told : Rat) + far) * (1 / M)) ((x : Rat) / M)
theorem y_neg {M y : Int} {R : Nat} {al : Rat} (hM : 1 ≤ M) (hv : al ≤ vv M y R) (hy : y ≤ 0) : Ab ((y : Rat) * (1 / M)) ((1 - al) * 2 ^ R) := by
  have hm := clt (show (0 : Int) < M by omega)
  have hmi := inv_pos hm
  have h2 := two_pos R
  have z := cle hy
  unfold vv at hv
  push_cast at *
  have m := Rat.mul_le_mul_of_nonneg_left hv (show (0 : Rat) ≤ 2 ^ R by grind)
  have e : (2 : Rat) ^ R * (1 + (y : Rat) * (1 / 2 ^ R) * (1 / M)) = 2 ^ R + y * (1 / M) := by
    have e6 : (2 : Rat) ^ R * (1 / 2 ^ R) = 1 := by grind
    have : (2 : Rat) ^ R * (1 + (y : Rat) * (1 / 2 ^ R) * (1 / M)) = 2 ^ R + (2 ^ R * (1 / 2 ^ R)) * (y * (1 / M)) := by grind
    rw [this, e6]; grind
  rw [e] at m
  have n := Rat.mul_nonneg (show (0 : Rat) ≤ -y by grind) (show (0 : Rat) ≤ 1 / M by grind)
  constructor <;> grind
theorem y_pos {M y : Int} {R : Nat} {be : Rat} (hM : 1 ≤ M) (hv : vv M y R ≤ be) (hy : 0 ≤ y) : Ab ((y : Rat) * (1 / M)) ((be - 1) * 2 ^ R) := by
  have hm := clt (show (0 : Int) < M by omega)
  have hmi := inv_pos hm
  have h2 := two_pos R
  have z := cle hy
  unfold vv at hv
  push_cast at *
  have m := Rat.mul_le_mul_of_nonneg_left hv (show (0 : Rat) ≤ 2 ^ R by grind)
  have e : (2 : Rat) ^ R * (1 + (y : Rat) * (1 / 2 ^ R) * (1 / M)) = 2 ^ R + y * (1 / M) := by
    have e6 : (2 : Rat) ^ R * (1 / 2 ^ R) = 1 := by grind
    have : (2 : Rat) ^ R * (1 + (y : Rat) * (1 / 2 ^ R) * (1 / M)) = 2 ^ R + (2 ^ R * (1 / 2 ^ R)) * (y * (1 / M)) := by grind
    rw [this, e6]; grind
  rw [e] at m
  have n := Rat.mul_nonneg (show (0 : Rat) ≤ y by grind) (show (0 : Rat) ≤ 1 / M by grind)
  constructor <;> grind
theorem not_again {M y : Int} {Y : Rat} (hM : 1 ≤ M) (h : Ab ((y : Rat) * (1 / M)) Y) (hY : Y < 4) : ¬ Again M y 10 := by
  intro g
  unfold Again at g
  have hm := clt (show (0 : Int) < M by omega)
  have g := cle g
  have e : (M : Rat) * ((y : Rat) * (1 / M)) = y := by push_cast at *; grind
  obtain ⟨a, b⟩ := h
  have b' := Rat.mul_le_mul_of_nonneg_left b (show (0 : Rat) ≤ M by push_cast at *; grind)
  have a' := Rat.mul_le_mul_of_nonneg_left a (show (0 : Rat) ≤ M by push_cast at *; grind)
  rw [e] at a' b'
  have c : ((y.natAbs : Int) : Rat) ≤ M * Y := by
    rcases Int.le_total 0 y with h | h
    · rw [Int.natAbs_of_nonneg h]; exact b'
    · rw [Int.ofNat_natAbs_of_nonpos h]; push_cast; grind
  have k := Rat.mul_pos (show (0 : Rat) < M by push_cast at *; grind) (show 0 < 4 - Y by grind)
  push_cast at *
  grind
/-- the last rows' bound in the two cases, M from 128 on -/
theorem fin_cases {M y : Int} {R T : Nat} {Y : Rat} (hM : 128 ≤ M) (hT : 2 ≤ T) (hMT : (M : Rat) ≤ 256 ^ T) (hR : R ≤ 10) (hA : ¬ Again M y R) (h10 : R = 10 → Ab ((y : Rat) * (1 / M)) Y) (hY : Y ≤ 5 / 2) :
    LO ((ilogFin M y R T - 11 / 4) * (1 / M) * (1 / 2 ^ R)) (vv M y R) ∧ UP ((ilogFin M y R T + 11 / 4) * (1 / M) * (1 / 2 ^ R)) (vv M y R) ∧
    (1 ≤ y → 1 ≤ ilogFin M y R T) ∧ (y ≤ -1 → ilogFin M y R T ≤ -1) := by
  by_cases h : R = 10
  · have yb := (h10 h).le hY
    subst h
    have e2 : (2 : Rat) ^ 10 = 1024 := by decide +kernel
    refine fin_big hM hT hMT yb (by rw [e2]; grind) (by rw [e2]; grind)
  · have yb := y_of_not (show 1 ≤ M by omega) hA
    have t := two_le (show R ≤ 9 by omega)
    have h2 := two_pos R
    have e6 : (256 : Rat) * (2 ^ R * (1 / 256)) * (1 / 2 ^ R) = 1 := by grind
    refine fin_big hM hT hMT yb (by grind) ?_
    rw [e6]
    grind
theorem fin_cases' {M y : Int} {R T : Nat} {Y : Rat} (hM : 1 ≤ M) (hM2 : M ≤ 127) (hT : 1 ≤ T) (hR : R ≤ 10) (hA : ¬ Again M y R) (h10 : R = 10 → Ab ((y : Rat) * (1 / M)) Y) (hY : Y ≤ 3652 / 1000) :
    ilogFin M y R T = y ∧ LO ((y - 835 / 1000) * (1 / M) * (1 / 2 ^ R)) (vv M y R) ∧ UP ((y + 835 / 1000) * (1 / M) * (1 / 2 ^ R)) (vv M y R) := by
  refine ⟨fin_eq hM hT (rsn_is_zero (M := M) (by omega) (by unfold Again at hA; omega)), ?_⟩
  have hm := cle hM2
  have hm0 := cle hM
  push_cast at hm hm0
  by_cases h : R = 10
  · have yb := (h10 h).le hY
    subst h
    have e2 : (2 : Rat) ^ 10 = 1024 := by decide +kernel
    refine fin_small hM yb (by rw [e2]; grind) (by rw [e2]; grind)
  · have yb := y_of_not (show 1 ≤ M by omega) hA
    have t := two_le (show R ≤ 9 by omega)
    have h2 := two_pos R
    have e6 : (2 : Rat) ^ R * (1 / 256) * (1 / 2 ^ R) = 1 / 256 := by grind
    refine fin_small hM yb (by grind) ?_
    rw [e6]
    have := mul_le_mul hm t (by grind) (by grind)
    grind
/-- what is shown of the loop and of the answer -/
def Fine (M x : Int) (T : Nat) : Prop :=
  (∀ j : Nat, j ≤ 10 → (∀ i, i < j → Again M (iterY M (x - M) i) i) → Again M (iterY M (x - M) j) j → j < 10 ∧ 1 ≤ M + rsn (iterY M (x - M) j) j) ∧
  (∀ j : Nat, j ≤ 10 → (∀ i, i < j → Again M (iterY M (x - M) i) i) → ¬ Again M (iterY M (x - M) j) j →
    Good M x (ilogFin M (iterY M (x - M) j) j T) (if M ≤ x then 15 else 22) ∧ ((0 < ilogFin M (iterY M (x - M) j) j T ↔ M < x) ∧ (ilogFin M (iterY M (x - M) j) j T < 0 ↔ x < M)))
theorem nB_far : Bs nB_E 10 + 11 / 4 ≤ 22 := by decide +kernel
theorem nA_far : Bs nA_E 10 + 835 / 1000 ≤ 22 := by decide +kernel
theorem pB_far : Bs pB_E 10 + 11 / 4 ≤ 15 := by decide +kernel
theorem pA_far : Bs pA_E 10 + 835 / 1000 ≤ 15 := by decide +kernel
theorem nB_E0 : ∀ j, j < 10 → 0 ≤ nB_E j := by decide +kernel
theorem nA_E0 : ∀ j, j < 10 → 0 ≤ nA_E j := by decide +kernel
theorem pB_E0 : ∀ j, j < 10 → 0 ≤ pB_E j := by decide +kernel
theorem pA_E0 : ∀ j, j < 10 → 0 ≤ pA_E j := by decide +kernel
theorem nB_y : (1 - nB_al 10) * 2 ^ 10 ≤ 5 / 2 := by decide +kernel
theorem nA_y : (1 - nA_al 10) * 2 ^ 10 ≤ 3652 / 1000 := by decide +kernel
theorem pB_y : (pB_be 10 - 1) * 2 ^ 10 ≤ 5 / 2 := by decide +kernel
theorem pA_y : (pA_be 10 - 1) * 2 ^ 10 ≤ 3652 / 1000 := by decide +kernel
theorem inv_of {M : Int} {n : Nat} (hn : 0 < n) (h : (n : Int) ≤ M) : 1 / (M : Rat) ≤ 1 / (n : Rat) := by
  have h1 := cle h
  have e : (((n : Nat) : Int) : Rat) = (n : Rat) := by norm_cast
  rw [e] at h1
  exact inv_le (npos hn) h1
theorem neg_fine {M x : Int} {T : Nat} (hM : 40 ≤ M) (hT : 1 ≤ T) (hT2 : 128 ≤ M → 2 ≤ T) (hMT : (M : Rat) ≤ 256 ^ T) (hx : x < M) (hx10 : M ≤ 10 * x) : Fine M x T := by
  rcases Int.lt_or_le M 128 with hM2 | hM2
  · have ch := neg_chain nA_ok nA_low (by decide +kernel) (show 10 ≤ M by omega) (by have := inv_of (n := 40) (by decide) hM; push_cast at this; exact this) hx hx10
    constructor
    · intro j hj _ ha
      obtain ⟨y1, y2, y3, _⟩ := ch j hj
      refine ⟨?_, y2⟩
      rcases Nat.lt_or_ge j 10 with h | h
      · exact h
      · have : j = 10 := by omega
        subst this
        exact absurd ha (not_again (by omega) ((y_neg (by omega) y3 (by omega)).le nA_y) (by grind))
    · intro j hj _ ha
      obtain ⟨y1, y2, y3, K⟩ := ch j hj
      generalize iterY M (x - M) j = y at *
      obtain ⟨e, cl⟩ := fin_cases' (Y := (1 - nA_al 10) * 2 ^ 10) (show 1 ≤ M by omega) (by omega) hT hj ha (by intro h; subst h; exact y_neg (by omega) y3 (by omega)) nA_y
      rw [e, if_neg (by omega)]
      refine ⟨combine (by omega) K cl ?_, by omega, by omega⟩
      have := Bs_mono nA_E0 j hj
      have := nA_far
      grind
  · have ch := neg_chain nB_ok nB_low (by decide +kernel) (show 10 ≤ M by omega) (by have := inv_of (n := 128) (by decide) hM2; push_cast at this; exact this) hx hx10
    constructor
    · intro j hj _ ha
      obtain ⟨y1, y2, y3, _⟩ := ch j hj
      refine ⟨?_, y2⟩
      rcases Nat.lt_or_ge j 10 with h | h
      · exact h
      · have : j = 10 := by omega
        subst this
        exact absurd ha (not_again (by omega) ((y_neg (by omega) y3 (by omega)).le nB_y) (by grind))
    · intro j hj _ ha
      obtain ⟨y1, y2, y3, K⟩ := ch j hj
      generalize iterY M (x - M) j = y at *
      obtain ⟨c1, c2, c3, c4⟩ := fin_cases (Y := (1 - nB_al 10) * 2 ^ 10) hM2 (hT2 hM2) hMT hj ha (by intro h; subst h; exact y_neg (by omega) y3 (by omega)) nB_y
      have := c4 y1
      rw [if_neg (by omega)]
      refine ⟨combine (by omega) K ⟨c1, c2⟩ ?_, by omega, by omega⟩
      have := Bs_mono nB_E0 j hj
      have := nB_far
      grind
theorem pos_fine {M x : Int} {T : Nat} (hM : 12 ≤ M) (hT : 1 ≤ T) (hT2 : 128 ≤ M → 2 ≤ T) (hMT : (M : Rat) ≤ 256 ^ T) (hx : M < x) (hx10 : x ≤ 10 * M) : Fine M x T := by
  rcases Int.lt_or_le M 128 with hM2 | hM2
  · have ch := pos_chain pA_ok (by decide +kernel) (show 1 ≤ M by omega) (by have := inv_of (n := 12) (by decide) hM; push_cast at this; exact this) hx hx10
    constructor
    · intro j hj _ ha
      obtain ⟨y1, y2, y3, _⟩ := ch j hj
      refine ⟨?_, y2⟩
      rcases Nat.lt_or_ge j 10 with h | h
      · exact h
      · have : j = 10 := by omega
        subst this
        exact absurd ha (not_again (by omega) ((y_pos (by omega) y3 (by omega)).le pA_y) (by grind))
    · intro j hj _ ha
      obtain ⟨y1, y2, y3, K⟩ := ch j hj
      generalize iterY M (x - M) j = y at *
      obtain ⟨e, cl⟩ := fin_cases' (Y := (pA_be 10 - 1) * 2 ^ 10) (show 1 ≤ M by omega) (by omega) hT hj ha (by intro h; subst h; exact y_pos (by omega) y3 (by omega)) pA_y
      rw [e, if_pos (by omega)]
      refine ⟨combine (by omega) K cl ?_, by omega, by omega⟩
      have := Bs_mono pA_E0 j hj
      have := pA_far
      grind
  · have ch := pos_chain pB_ok (by decide +kernel) (show 1 ≤ M by omega) (by have := inv_of (n := 128) (by decide) hM2; push_cast at this; exact this) hx hx10
    constructor
    · intro j hj _ ha
      obtain ⟨y1, y2, y3, _⟩ := ch j hj
      refine ⟨?_, y2⟩
      rcases Nat.lt_or_ge j 10 with h | h
      · exact h
      · have : j = 10 := by omega
        subst this
        exact absurd ha (not_again (by omega) ((y_pos (by omega) y3 (by omega)).le pB_y) (by grind))
    · intro j hj _ ha
      obtain ⟨y1, y2, y3, K⟩ := ch j hj
      generalize iterY M (x - M) j = y at *
      obtain ⟨c1, c2, c3, c4⟩ := fin_cases (Y := (pB_be 10 - 1) * 2 ^ 10) hM2 (hT2 hM2) hMT hj ha (by intro h; subst h; exact y_pos (by omega) y3 (by omega)) pB_y
      have := c3 y1
      rw [if_pos (by omega)]
      refine ⟨combine (by omega) K ⟨c1, c2⟩ ?_, by omega, by omega⟩
      have := Bs_mono pB_E0 j hj
      have := pB_far
      grind
theorem divN_zero {M : Int} (hM : 1 ≤ M) : divN 0 M = 0 := by
  have b := divN_facts (a := 0) (b := M) (by omega)
  rcases Int.lt_trichotomy (divN 0 M) 0 with x | x | x
  · have := Int.mul_le_mul_of_nonneg_left (show divN 0 M ≤ -1 by omega) (show 0 ≤ M by omega); omega
  · exact x
  · have := Int.mul_le_mul_of_nonneg_left (show 1 ≤ divN 0 M by omega) (show 0 ≤ M by omega); omega
theorem eq_fine {M : Int} {T : Nat} (hM : 1 ≤ M) : Fine M M T := by
  have h0 : ¬ Again M (iterY M (M - M) 0) 0 := by
    show ¬ Again M (M - M) 0
    unfold Again
    rw [Int.sub_self]
    simp; omega
  constructor
  · intro j hj g ha
    rcases Nat.eq_zero_or_pos j with h | h
    · subst h; exact absurd ha h0
    · exact absurd (g 0 h) h0
  · intro j hj g ha
    rcases Nat.eq_zero_or_pos j with h | h
    · subst h
      have e : ilogFin M (iterY M (M - M) 0) (0 : Nat) T = 0 := by
        show ilogFin M (M - M) _ T = 0
        unfold ilogFin
        rw [Int.sub_self, Int.mul_zero]
        exact divN_zero hM
      rw [e, if_pos (by omega)]
      have hm := clt (show (0 : Int) < M by omega)
      have hmi := inv_pos hm
      have e1 : (M : Rat) / M = 1 := by push_cast at *; grind
      refine ⟨?_, by omega, by omega⟩
      unfold Good
      rw [e1]
      push_cast
      exact ⟨LO.one.mono (by grind) (Rat.le_refl), UP.one.mono (by grind) (Rat.le_refl)⟩
    · exact absurd (g 0 h) h0
end Lg

namespace Lg
/-- the law's rows, reckoned: (low, power) -/
def rowsB (a b : Int) : Nat → Int → Int → Int → Int × Int
  | 0, _, p, l => (l, p)
  | n + 1, k, p, l => rowsB a b n (k + 2) ((p * (a - b) ^ 2).fdiv ((a + b) ^ 2)) (l + p.fdiv k)
theorem rowsB_eq (a b unit : Int) : ∀ (n j : Nat), rowsB a b n (2 * j + 1) (pw a b unit j) (lows a b unit j) = (lows a b unit (j + n), pw a b unit (j + n))
  | 0, j => rfl
  | n + 1, j => by
    rw [rowsB]
    have := rowsB_eq a b unit n (j + 1)
    have e : ((2 : Int) * ((j + 1 : Nat) : Int) + 1) = 2 * (j : Int) + 1 + 2 := by push_cast; omega
    rw [e] at this
    rw [show j + (n + 1) = j + 1 + n by omega]
    exact this
def rows25 (a b : Int) : Int × Int := rowsB a b 25 1 ((20000 * (a - b)).fdiv (a + b)) 0
theorem rows25_eq (a b : Int) : rows25 a b = (lows a b 20000 25, pw a b 20000 25) := by
  have := rowsB_eq a b 20000 25 0
  rw [show 0 + 25 = 25 from rfl] at this
  exact this
def okEnd (M x y : Int) : Bool :=
  if M < x then
    let r := rows25 x M
    decide (r.2 ≤ 0) && decide ((y - 15) * 20000 ≤ 2 * r.1 * M) && decide ((2 * r.1 + 208) * M ≤ (y + 15) * 20000) && decide (0 < y)
  else
    let r := rows25 M x
    decide (r.2 ≤ 0) && decide ((y - 22) * 20000 ≤ -(2 * r.1 + 208) * M) && decide (-(2 * r.1) * M ≤ (y + 22) * 20000) && decide (y < 0)
def run (M x : Int) : Nat → Int → Nat → Bool
  | 0, _, _ => false
  | f + 1, y, R => if M * 2 ^ R ≤ (y.natAbs : Int) * 256 then decide (R < 10) && decide (1 ≤ M + rsn y R) && run M x f (stepY M y R) (R + 1) else okEnd M x y
theorem run_says (M x : Int) : ∀ (f j : Nat), run M x f (iterY M (x - M) j) j = true → ∀ i, j ≤ i → (∀ l, l < i → Again M (iterY M (x - M) l) l) →
    (Again M (iterY M (x - M) i) i → i < 10 ∧ 1 ≤ M + rsn (iterY M (x - M) i) i) ∧ (¬ Again M (iterY M (x - M) i) i → okEnd M x (iterY M (x - M) i) = true)
  | 0, j, h => by simp [run] at h
  | f + 1, j, h => by
    rw [run] at h
    intro i hi g
    by_cases ha : M * 2 ^ j ≤ ((iterY M (x - M) j).natAbs : Int) * 256
    · rw [if_pos ha] at h
      simp only [Bool.and_eq_true, decide_eq_true_eq] at h
      obtain ⟨⟨h1, h2⟩, h3⟩ := h
      rcases Nat.eq_or_lt_of_le hi with e | e
      · subst e
        exact ⟨fun _ => ⟨h1, h2⟩, fun n => absurd ha n⟩
      · exact run_says M x f (j + 1) h3 i e g
    · rw [if_neg ha] at h
      rcases Nat.eq_or_lt_of_le hi with e | e
      · subst e
        exact ⟨fun n => absurd n ha, fun _ => h⟩
      · exact absurd (g j e) ha
theorem div_le_of {a b c d : Int} (hb : 0 < b) (hd : 0 < d) (h : a * d ≤ c * b) : (a : Rat) * (1 / b) ≤ (c : Rat) / d := by
  have hbr := clt hb
  have hdr := clt hd
  have h := cle h
  push_cast at *
  refine le_of_mul (Rat.mul_pos hbr hdr) ?_
  have e1 : (b : Rat) * d * ((a : Rat) * (1 / b)) = a * d := by grind
  have e2 : (b : Rat) * d * ((c : Rat) / d) = c * b := by grind
  rw [e1, e2]; exact h
theorem le_div_of {a b c d : Int} (hb : 0 < b) (hd : 0 < d) (h : c * b ≤ a * d) : (c : Rat) / d ≤ (a : Rat) * (1 / b) := by
  have hbr := clt hb
  have hdr := clt hd
  have h := cle h
  push_cast at *
  refine le_of_mul (Rat.mul_pos hbr hdr) ?_
  have e1 : (b : Rat) * d * ((a : Rat) * (1 / b)) = a * d := by grind
  have e2 : (b : Rat) * d * ((c : Rat) / d) = c * b := by grind
  rw [e1, e2]; exact h
theorem okEnd_says {M x y : Int} (hM : 1 ≤ M) (hne : x ≠ M) (h1 : M ≤ 10 * x) (h2 : x ≤ 10 * M) (h : okEnd M x y = true) :
    Good M x y (if M ≤ x then 15 else 22) ∧ ((0 < y ↔ M < x) ∧ (y < 0 ↔ x < M)) := by
  unfold okEnd at h
  have hm := clt (show (0 : Int) < M by omega)
  by_cases hx : M < x
  · rw [if_pos hx] at h
    rw [rows25_eq] at h
    simp only [Bool.and_eq_true, decide_eq_true_eq] at h
    obtain ⟨⟨⟨a, b⟩, c⟩, d⟩ := h
    rw [if_pos (by omega)]
    refine ⟨⟨?_, ?_⟩, by omega, by omega⟩
    · have l := law_LO (a := x) (b := M) (unit := 20000) (by omega) (by omega) h2 (by decide) 25
      refine l.mono ?_ (Rat.le_refl)
      have := div_le_of (a := y - 15) (b := M) (c := 2 * lows x M 20000 25) (d := 20000) (by omega) (by decide) (by omega)
      push_cast at this ⊢
      exact this
    · have l := law_UP (a := x) (b := M) (unit := 20000) (by omega) (by omega) h2 (by decide) 25 a
      refine l.mono ?_ (Rat.le_refl)
      have := le_div_of (a := y + 15) (b := M) (c := 2 * lows x M 20000 25 + 4 * (2 * (25 : Nat) + 1) + 4) (d := 20000) (by omega) (by decide) (by rw [show 2 * lows x M 20000 25 + 4 * (2 * ((25 : Nat) : Int) + 1) + 4 = 2 * lows x M 20000 25 + 208 by omega]; exact c)
      push_cast at this ⊢
      exact this
  · rw [if_neg hx] at h
    rw [rows25_eq] at h
    simp only [Bool.and_eq_true, decide_eq_true_eq] at h
    obtain ⟨⟨⟨a, b⟩, c⟩, d⟩ := h
    rw [if_neg (by omega)]
    have hxr := clt (show (0 : Int) < x by omega)
    have hq : (0 : Rat) < (M : Rat) / x := by
      have := Rat.mul_pos hm (inv_pos hxr); push_cast at *; grind
    have e : (1 : Rat) / ((M : Rat) / x) = (x : Rat) / M := by push_cast at *; grind
    refine ⟨⟨?_, ?_⟩, by omega, by omega⟩
    · have l := (law_UP (a := M) (b := x) (unit := 20000) (by omega) (by omega) h1 (by decide) 25 a).inv hq
      rw [e] at l
      refine l.mono ?_ (Rat.le_refl)
      have := div_le_of (a := y - 22) (b := M) (c := -(2 * lows M x 20000 25 + 4 * (2 * (25 : Nat) + 1) + 4)) (d := 20000) (by omega) (by decide) (by rw [show 2 * lows M x 20000 25 + 4 * (2 * ((25 : Nat) : Int) + 1) + 4 = 2 * lows M x 20000 25 + 208 by omega]; exact b)
      push_cast at this ⊢
      grind
    · have l := (law_LO (a := M) (b := x) (unit := 20000) (by omega) (by omega) h1 (by decide) 25).inv hq
      rw [e] at l
      refine l.mono ?_ (Rat.le_refl)
      have := le_div_of (a := y + 22) (b := M) (c := -(2 * lows M x 20000 25)) (d := 20000) (by omega) (by decide) (by omega)
      push_cast at this ⊢
      grind
theorem small_fine {M x : Int} (hM : 1 ≤ M) (hM2 : M < 128) (hne : x ≠ M) (h1 : M ≤ 10 * x) (h2 : x ≤ 10 * M) {T : Nat} (hT : 1 ≤ T) (h : run M x 11 (x - M) 0 = true) : Fine M x T := by
  have s := run_says M x 11 0 h
  constructor
  · intro j hj g ha
    exact (s j (by omega) g).1 ha
  · intro j hj g ha
    have e : ilogFin M (iterY M (x - M) j) j T = iterY M (x - M) j := fin_eq hM hT (rsn_is_zero (M := M) (by omega) (by unfold Again at ha; omega))
    rw [e]
    exact okEnd_says hM hne h1 h2 ((s j (by omega) g).2 ha)
/-- all x below one M -/
def below (M : Nat) : Bool := (List.range M).all fun x => decide (10 * (x : Int) < M) || run M x 11 (x - M) 0
def above (M : Nat) : Bool := (List.range (9 * M)).all fun i => run M (M + 1 + i : Nat) 11 (1 + i : Nat) 0
theorem below_a : ∀ M, M < 24 → below M = true := by decide +kernel
theorem below_b : ∀ M, M < 9 → below (24 + M) = true := by decide +kernel
theorem below_c : ∀ M, M < 7 → below (33 + M) = true := by decide +kernel
theorem below_ok (M : Nat) (h : M < 40) : below M = true := by
  rcases Nat.lt_or_ge M 24 with a | a
  · exact below_a M a
  rcases Nat.lt_or_ge M 33 with b | b
  · have := below_b (M - 24) (by omega)
    rwa [show 24 + (M - 24) = M by omega] at this
  · have := below_c (M - 33) (by omega)
    rwa [show 33 + (M - 33) = M by omega] at this
theorem above_a : ∀ M, M < 8 → above M = true := by decide +kernel
theorem above_b : ∀ M, M < 4 → above (8 + M) = true := by decide +kernel
theorem above_ok (M : Nat) (h : M < 12) : above M = true := by
  rcases Nat.lt_or_ge M 8 with a | a
  · exact above_a M a
  · have := above_b (M - 8) (by omega)
    rwa [show 8 + (M - 8) = M by omega] at this

/-- the number of rows: a tenth of ten digits' bits, rounded up -/
theorem all_fine {M x : Int} (hM : 1 ≤ M) (h1 : M ≤ 10 * x) (h2 : x ≤ 10 * M) {T : Nat} (hT : 1 ≤ T) (hT2 : 128 ≤ M → 2 ≤ T) (hMT : (M : Rat) ≤ 256 ^ T) : Fine M x T := by
  rcases Int.lt_trichotomy x M with h | h | h
  · rcases Int.lt_or_le M 40 with g | g
    · refine small_fine hM (by omega) (by omega) h1 h2 hT ?_
      have b := below_ok M.toNat (by omega)
      unfold below at b
      rw [List.all_eq_true] at b
      have := b x.toNat (List.mem_range.mpr (by omega))
      have eM : ((M.toNat : Nat) : Int) = M := by omega
      have ex : ((x.toNat : Nat) : Int) = x := by omega
      rw [eM, ex] at this
      rcases Bool.or_eq_true_iff.mp this with c | c
      · have := of_decide_eq_true c; omega
      · exact c
    · exact neg_fine g hT hT2 hMT h h1
  · subst h; exact eq_fine hM
  · rcases Int.lt_or_le M 12 with g | g
    · refine small_fine hM (by omega) (by omega) h1 h2 hT ?_
      have b := above_ok M.toNat (by omega)
      unfold above at b
      rw [List.all_eq_true] at b
      have := b (x - M - 1).toNat (List.mem_range.mpr (by omega))
      have eM : ((M.toNat : Nat) : Int) = M := by omega
      have ex : ((M.toNat + 1 + (x - M - 1).toNat : Nat) : Int) = x := by omega
      have ey : ((1 + (x - M - 1).toNat : Nat) : Int) = x - M := by omega
      rw [ex, ey, eM] at this
      exact this
    · exact pos_fine g hT hT2 hMT h h2
end Lg

section
open PySem PySem.W PyProof.Rows
namespace Mine
open Lg
/-- the number of signs of M's text -/
def dg (M : Int) : Nat := (Str.ofString (toString M)).length
theorem dg_eq {M : Int} (h : 0 ≤ M) : dg M = (Nat.toDigits 10 M.toNat).length := by
  obtain ⟨m, rfl⟩ : ∃ m : Nat, M = m := ⟨M.toNat, by omega⟩
  unfold dg
  have := PySem.W.KIN.signs_num m
  show (Str.ofString (toString (m : Int))).cps.size = _
  rw [← Array.length_toList, this, List.length_map]
  rfl
theorem dg_pos {M : Int} (h : 0 ≤ M) : 1 ≤ dg M := by
  rw [dg_eq h]
  exact Nat.length_toDigits_pos
theorem dg_lt {M : Int} (h : 0 ≤ M) : M < 10 ^ dg M := by
  have h1 := (Nat.length_toDigits_le_iff (b := 10) (n := M.toNat) (k := dg M) (by decide) (dg_pos h)).mp (by rw [dg_eq h]; exact Nat.le_refl _)
  have : ((10 ^ dg M : Nat) : Int) = (10 : Int) ^ dg M := by push_cast; rfl
  omega
theorem dg_le {M : Int} {k : Nat} (h : 0 ≤ M) (hk : 0 < k) (h2 : M < 10 ^ k) : dg M ≤ k := by
  rw [dg_eq h]
  refine (Nat.length_toDigits_le_iff (by decide) hk).mpr ?_
  have : ((10 ^ k : Nat) : Int) = (10 : Int) ^ k := by push_cast; rfl
  omega
/-- the number of rows -/
def TI (M : Int) : Int := -((-10 * (dg M : Int)).fdiv 24)
def TT (M : Int) : Nat := (TI M).toNat
theorem TI_facts {M : Int} (h : 0 ≤ M) : 1 ≤ TI M ∧ 10 * (dg M : Int) ≤ 24 * TI M ∧ 24 * TI M ≤ 10 * (dg M : Int) + 23 := by
  have := dg_pos h
  unfold TI
  rw [fd (by decide)]
  omega
theorem cube {a b : Nat} (h : a * a * a ≤ b * b * b) : a ≤ b := by
  rcases Nat.lt_or_ge b a with x | x
  · exfalso
    have h1 : b * b < a * a := Nat.mul_lt_mul'' x x
    have h2 : b * b * b < a * a * a := Nat.mul_lt_mul'' h1 x
    omega
  · exact x
theorem TT_pow {M : Int} (h : 0 ≤ M) : (10 : Nat) ^ dg M ≤ 256 ^ TT M := by
  have f := TI_facts h
  have hT : 10 * dg M ≤ 24 * TT M := by unfold TT; omega
  apply cube
  have e1 : (256 : Nat) ^ TT M * 256 ^ TT M * 256 ^ TT M = 2 ^ (24 * TT M) := by
    rw [show (256 : Nat) = 2 ^ 8 from rfl, ← Nat.pow_mul, ← Nat.pow_add, ← Nat.pow_add]
    congr 1; omega
  have e2 : (10 : Nat) ^ dg M * 10 ^ dg M * 10 ^ dg M = 1000 ^ dg M := by
    rw [show (1000 : Nat) = 10 * 10 * 10 from rfl, Nat.mul_pow, Nat.mul_pow]
  rw [e1, e2]
  refine Nat.le_trans (Nat.pow_le_pow_left (show 1000 ≤ 2 ^ 10 by decide) _) ?_
  rw [← Nat.pow_mul]
  exact Nat.pow_le_pow_right (by decide) hT
theorem TT_rat {M : Int} (h : 0 ≤ M) : (M : Rat) ≤ 256 ^ TT M := by
  have h1 := dg_lt h
  have h2 := TT_pow h
  have h3 : M ≤ ((256 ^ TT M : Nat) : Int) := by
    have : ((10 ^ dg M : Nat) : Int) = (10 : Int) ^ dg M := by push_cast; rfl
    have : ((10 ^ dg M : Nat) : Int) ≤ ((256 ^ TT M : Nat) : Int) := by exact_mod_cast h2
    omega
  have := cle h3
  have e : ∀ n : Nat, (((256 ^ n : Nat) : Int) : Rat) = (256 : Rat) ^ n := by
    intro n
    induction n with
    | zero => rfl
    | succ n ih =>
      rw [Nat.pow_succ, Rat.pow_succ, ← ih]
      generalize (256 ^ n : Nat) = k
      rw [Int.natCast_mul, Rat.intCast_mul]
      rfl
  rwa [e] at this
theorem TT_pos {M : Int} (h : 0 ≤ M) : 1 ≤ TT M := by have := TI_facts h; unfold TT; omega
theorem TT_two {M : Int} (h : 128 ≤ M) : 2 ≤ TT M := by
  have f := TI_facts (M := M) (by omega)
  have : 3 ≤ dg M := by
    rcases Nat.lt_or_ge (dg M) 3 with x | x
    · have h1 := dg_lt (M := M) (by omega)
      have e : dg M = 0 ∨ dg M = 1 ∨ dg M = 2 := by omega
      rcases e with e | e | e <;> rw [e] at h1 <;> omega
    · exact x
  unfold TT; omega

structure Scale (M : Int) : Prop where
  lo : 1 ≤ M
  hi : M ≤ 10 ^ 200
structure Pre (x M : Int) : Prop where
  sc : Scale M
  lo : M ≤ 10 * x
  hi : x ≤ 10 * M
/-- the loop's last turn -/
def Rf (x M : Int) : Nat := ((List.range 11).find? fun j => !decide (M * 2 ^ j ≤ ((iterY M (x - M) j).natAbs : Int) * 256)).getD 0
def ilog (x M : Int) : Int := ilogFin M (iterY M (x - M) (Rf x M)) (Rf x M : Nat) (TT M)
theorem Rf_eq {x M : Int} {j : Nat} (hj : j ≤ 10) (h : ∀ i, i < j → Again M (iterY M (x - M) i) i) (hn : ¬ Again M (iterY M (x - M) j) j) : Rf x M = j := by
  unfold Rf
  have : (List.range 11).find? (fun j => !decide (M * 2 ^ j ≤ ((iterY M (x - M) j).natAbs : Int) * 256)) = some j := by
    rw [List.find?_range_eq_some]
    refine ⟨?_, ?_, ?_⟩
    · simpa [Again] using hn
    · simp; omega
    · intro i hi
      have := h i hi
      simpa [Again] using this
  rw [this]
  rfl
theorem fine {x M : Int} (P : Pre x M) : Fine M x (TT M) := all_fine P.sc.lo P.lo P.hi (TT_pos (by have := P.sc.lo; omega)) (fun h => TT_two h) (TT_rat (by have := P.sc.lo; omega))
theorem Rf_spec {x M : Int} (P : Pre x M) : Rf x M ≤ 10 ∧ (∀ i, i < Rf x M → Again M (iterY M (x - M) i) i) ∧ ¬ Again M (iterY M (x - M) (Rf x M)) (Rf x M) := by
  have F := (fine P).1
  have ex : ∃ j, j ≤ 10 ∧ (∀ i, i < j → Again M (iterY M (x - M) i) i) ∧ ¬ Again M (iterY M (x - M) j) j := by
    have key : ∀ n, n ≤ 11 → (∀ i, i < n → Again M (iterY M (x - M) i) i) ∨ ∃ j, j < n ∧ (∀ i, i < j → Again M (iterY M (x - M) i) i) ∧ ¬ Again M (iterY M (x - M) j) j := by
      intro n
      induction n with
      | zero => intro _; left; intro i hi; omega
      | succ n ih =>
        intro hn
        rcases ih (by omega) with a | ⟨j, b, c⟩
        · by_cases h : Again M (iterY M (x - M) n) n
          · left
            intro i hi
            rcases Nat.lt_or_ge i n with x | x
            · exact a i x
            · have : i = n := by omega
              subst this; exact h
          · right; exact ⟨n, by omega, a, h⟩
        · right; exact ⟨j, by omega, c⟩
    rcases key 11 (Nat.le_refl _) with a | ⟨j, b, c⟩
    · have := (F 10 (Nat.le_refl _) (fun i hi => a i (by omega)) (a 10 (by omega))).1
      omega
    · exact ⟨j, by omega, c⟩
  obtain ⟨j, a, b, c⟩ := ex
  rw [Rf_eq a b c]
  exact ⟨a, b, c⟩
theorem ilog_good {x M : Int} (P : Pre x M) : Good M x (ilog x M) (if M ≤ x then 15 else 22) ∧ ((0 < ilog x M ↔ M < x) ∧ (ilog x M < 0 ↔ x < M)) := by
  obtain ⟨a, b, c⟩ := Rf_spec P
  exact (fine P).2 _ a b c
end Mine

end
section
open PySem PySem.W PyProof.Rows
namespace Mine
open Lg
theorem two_of {ws : List Value} {w : List Int} (h : IntsAre ws (List.take 2 (w ++ [0, 0]))) : ∃ t1 t2, ws = [Value.int (cellAt w 0 0) t1, Value.int (cellAt w 1 0) t2] := by
  rw [cellAt_def, cellAt_def]
  match w with
  | [] => 
    cases h with | cons _ _ h => cases h with | cons _ _ h => cases h; exact ⟨_, _, rfl⟩
  | [a] =>
    cases h with | cons _ _ h => cases h with | cons _ _ h => cases h; exact ⟨_, _, rfl⟩
  | a :: b :: r =>
    cases h with | cons _ _ h => cases h with | cons _ _ h => cases h; exact ⟨_, _, rfl⟩
theorem rsn_tree (x s : Int) : (x.fdiv (2 ^ s.toNat) + if decide (1 * 2 ^ s.toNat < 2 * Builtin.bitAnd x (1 * 2 ^ s.toNat - 1) + Builtin.bitAnd (x.fdiv (2 ^ s.toNat)) 1) = true then 1 else 0) = rsn x s := by
  unfold rsn
  rw [Int.one_mul, kbt_maskF, bitAnd_m1, fm (p := 2) (by decide)]
  simp only [decide_eq_true_eq]
theorem divN_tree (a b : Int) : (a.fdiv b + if decide (b < 2 * a.fmod b + Builtin.bitAnd (a.fdiv b) 1) = true then 1 else 0) = divN a b := by
  unfold divN
  rw [bitAnd_m1, fm (p := 2) (by decide)]
  simp only [decide_eq_true_eq]
section
variable {prog : Program} {w : World} {A : Around} {E : Value → Shared → Prop} {s : Shared} {t u : Tok} {Q : Value → Shared → Prop}
theorem scale_add {e : Int} (h : ∀ M : Int, Scale M → Q (.int M s.toks) { s with toks := s.toks + 1 }) :
    wpAny (model prog w) A (binaryOp .Add (.int 1 t) (.int (e.fmod (10 ^ Int.toNat 200)) u)) Q E s := by
  refine PyProof.Rows.add_int (h _ ⟨?_, ?_⟩)
  · have := Int.fmod_nonneg_of_pos e (b := 10 ^ Int.toNat 200) (by decide +kernel); omega
  · have h2 := Int.fmod_lt_of_pos e (b := 10 ^ 200) (by decide +kernel)
    show 1 + e.fmod (10 ^ 200) ≤ 10 ^ 200
    omega
theorem x_mod {e M : Int} (hS : Scale M) (h : Q (.int (e.fmod (10 * M - (M + 9).fdiv 10 + 1)) s.toks) { s with toks := s.toks + 1 }) :
    wpAny (model prog w) A (binaryOp .Mod (.int e t) (.int (10 * M - (M + 9).fdiv 10 + 1) u)) Q E s := by
  refine mod_int' ?_ h
  have := hS.lo
  rw [fd (by decide)]; omega
theorem x_add {e M : Int} (hS : Scale M) (h : ∀ x : Int, Pre x M → Q (.int x s.toks) { s with toks := s.toks + 1 }) :
    wpAny (model prog w) A (binaryOp .Add (.int ((M + 9).fdiv 10) t) (.int (e.fmod (10 * M - (M + 9).fdiv 10 + 1)) u)) Q E s := by
  refine PyProof.Rows.add_int (h _ ⟨hS, ?_, ?_⟩)
  all_goals
    have h1 := hS.lo
    have p : 0 < 10 * M - (M + 9).fdiv 10 + 1 := by rw [fd (by decide)]; omega
    have := Int.fmod_nonneg_of_pos e p
    have := Int.fmod_lt_of_pos e p
    rw [fd (x := M + 9) (by decide)] at *
    omega
end
theorem bits_scale {M : Int} (h : Scale M) : Builtin.Int.intBits M ≤ 700 := by
  rw [PySem.intBits_le_iff]
  have h1 := h.lo
  have h2 := h.hi
  have e : (10 : Int) ^ 200 < 2 ^ 700 := by decide +kernel
  have : M.natAbs < (2 : Nat) ^ 700 := by
    have : ((2 ^ 700 : Nat) : Int) = (2 : Int) ^ 700 := by push_cast; rfl
    omega
  exact this
theorem bits_x {x M : Int} (h : Pre x M) : Builtin.Int.intBits x ≤ 710 := by
  have h1 := bits_scale h.sc
  rw [PySem.intBits_le_iff] at *
  have := h.lo
  have := h.hi
  have e : (2 : Nat) ^ 710 = 1024 * 2 ^ 700 := by rw [show 710 = 10 + 700 from rfl, Nat.pow_add]
  omega
/-- the halvings' loop -/
structure WI (x M y R : Int) : Prop where
  pre : Pre x M
  r0 : 0 ≤ R
  r1 : R ≤ 10
  ye : y = iterY M (x - M) R.toNat
  ag : ∀ i : Nat, i < R.toNat → Again M (iterY M (x - M) i) i
theorem wi_start {x M : Int} (P : Pre x M) : WI x M (x - M) 0 ∧ 0 ≤ (0 : Int) ∧ (0 : Int) ≤ 10 := ⟨⟨P, by decide, by decide, rfl, fun i hi => absurd hi (by simp)⟩, by decide, by decide⟩
/-- a step's size -/
theorem step_abs {M y R : Int} (hM : 1 ≤ M) (hp : 1 ≤ M + rsn y R) : (stepY M y R).natAbs ≤ 2 * y.natAbs + 1 := by
  have H := halving_of hM hp
  obtain ⟨_, _, _, _, s0, _, _, z1, z2⟩ := H
  generalize sqN (M * (M + rsn y R)) M = s at *
  generalize stepY M y R = z at *
  rcases Int.le_total 0 y with hy | hy
  · have h1 := Int.mul_nonneg (show 0 ≤ s by omega) hy
    have u : z ≤ 2 * y + 1 := by
      rcases Int.lt_or_le (2 * y + 1) z with x | x
      · have := Int.mul_le_mul_of_nonneg_left (show 2 * y + 2 ≤ z by omega) (show 0 ≤ M + s by omega)
        have e : (M + s) * (2 * y + 2) = 2 * (M * y) + 2 * (s * y) + 2 * M + 2 * s := by grind
        omega
      · exact x
    have l : -1 ≤ z := by
      rcases Int.lt_or_le z (-1) with x | x
      · have := Int.mul_le_mul_of_nonneg_left (show z ≤ -2 by omega) (show 0 ≤ M + s by omega)
        have := Int.mul_nonneg (show 0 ≤ M by omega) hy
        omega
      · exact x
    omega
  · have h1 := Int.mul_nonneg (show 0 ≤ s by omega) (show 0 ≤ -y by omega)
    have l : 2 * y - 1 ≤ z := by
      rcases Int.lt_or_le z (2 * y - 1) with x | x
      · have := Int.mul_le_mul_of_nonneg_left (show z ≤ 2 * y - 2 by omega) (show 0 ≤ M + s by omega)
        have e : (M + s) * (2 * y - 2) = 2 * (M * y) + 2 * (s * y) - 2 * M - 2 * s := by grind
        rw [Int.mul_neg] at h1
        omega
      · exact x
    have u : z ≤ 1 := by
      rcases Int.lt_or_le 1 z with x | x
      · have := Int.mul_le_mul_of_nonneg_left (show 2 ≤ z by omega) (show 0 ≤ M + s by omega)
        have := Int.mul_nonneg (show 0 ≤ M by omega) (show 0 ≤ -y by omega)
        rw [Int.mul_neg] at this
        omega
      · exact x
    omega
theorem iter_abs {x M : Int} (P : Pre x M) : ∀ j : Nat, j ≤ 10 → (∀ i : Nat, i < j → Again M (iterY M (x - M) i) i) → (iterY M (x - M) j).natAbs + 1 ≤ 2 ^ j * ((x - M).natAbs + 1)
  | 0, _, _ => by simp [iterY]
  | j + 1, hj, h => by
    have ih := iter_abs P j (by omega) (fun i hi => h i (by omega))
    have f := ((fine P).1 j (by omega) (fun i hi => h i (by omega)) (h j (by omega))).2
    have s := step_abs (R := j) P.sc.lo f
    show (stepY M (iterY M (x - M) j) j).natAbs + 1 ≤ _
    rw [Nat.pow_succ, Nat.mul_comm (2 ^ j) 2, Nat.mul_assoc]
    omega
theorem bits_y {x M y R : Int} (h : WI x M y R) : Builtin.Int.intBits y ≤ 730 := by
  have a := iter_abs h.pre R.toNat (by have := h.r1; omega) h.ag
  rw [← h.ye] at a
  have h1 := bits_scale h.pre.sc
  rw [PySem.intBits_le_iff] at *
  have := h.pre.lo
  have := h.pre.hi
  have e : (2 : Nat) ^ 730 = 1073741824 * 2 ^ 700 := by rw [show 730 = 30 + 700 from rfl, Nat.pow_add]
  have e2 : 2 ^ R.toNat ≤ 2 ^ 10 := Nat.pow_le_pow_right (by decide) (by have := h.r1; omega)
  have e3 : 2 ^ R.toNat * ((x - M).natAbs + 1) ≤ 2 ^ 10 * ((x - M).natAbs + 1) := Nat.mul_le_mul_right _ e2
  omega
/-- the loop's test as the program writes it -/
theorem test_low {x M y R : Int} (h : WI x M y R) (hR : R ≤ 8) : (M ≤ (if y < 0 then -y else y) * 2 ^ (8 - R).toNat) ↔ Again M y R.toNat := by
  unfold Again
  have e : (2 : Int) ^ (8 - R).toNat * 2 ^ R.toNat = 256 := by
    rw [← Int.pow_add, show (8 - R).toNat + R.toNat = 8 by have := h.r0; omega]; rfl
  have hp := Lg.pw_pos R.toNat
  have ea : (if y < 0 then -y else y) = (y.natAbs : Int) := by split <;> omega
  rw [ea]
  generalize (2 : Int) ^ R.toNat = K at *
  generalize (2 : Int) ^ (8 - R).toNat = L at *
  generalize (y.natAbs : Int) = a at *
  constructor
  · intro g
    have := Int.mul_le_mul_of_nonneg_right g (show 0 ≤ K by omega)
    rw [Int.mul_assoc, e] at this
    exact this
  · intro g
    rw [← e, ← Int.mul_assoc] at g
    exact Int.le_of_mul_le_mul_right g hp
theorem test_high {x M y R : Int} (h : WI x M y R) (hR : 8 < R) : (M ≤ ((if y < 0 then -y else y)).fdiv (2 ^ (R - 8).toNat)) ↔ Again M y R.toNat := by
  unfold Again
  have e : (2 : Int) ^ R.toNat = 2 ^ (R - 8).toNat * 256 := by
    rw [show (256 : Int) = 2 ^ 8 from rfl, ← Int.pow_add, show (R - 8).toNat + 8 = R.toNat by omega]
  have hp := Lg.pw_pos (R - 8).toNat
  have ea : (if y < 0 then -y else y) = (y.natAbs : Int) := by split <;> omega
  rw [ea, e, fd hp]
  generalize (2 : Int) ^ (R - 8).toNat = L at *
  generalize (y.natAbs : Int) = a at *
  rw [Int.le_ediv_iff_mul_le hp, ← Int.mul_assoc]
  constructor <;> intro g <;> omega
theorem wi_pos {x M y R : Int} (h : WI x M y R) (g : Again M y R.toNat) : 1 ≤ M + rsn y R ∧ R < 10 := by
  have f := (fine h.pre).1 R.toNat (by have := h.r1; omega) h.ag (by rw [← h.ye]; exact g)
  rw [← h.ye] at f
  have e : ((R.toNat : Nat) : Int) = R := by have := h.r0; omega
  rw [e] at f
  exact ⟨f.2, by omega⟩
theorem wi_up {x M y R : Int} (h : WI x M y R) (g : Again M y R.toNat) : WI x M (stepY M y R) (R + 1) ∧ 0 ≤ R + 1 ∧ R + 1 ≤ 10 := by
  have p := wi_pos h g
  have r0 := h.r0
  have e : (R + 1).toNat = R.toNat + 1 := by omega
  have e2 : ((R.toNat : Nat) : Int) = R := by omega
  refine ⟨⟨h.pre, by omega, by omega, ?_, ?_⟩, by omega, by omega⟩
  · rw [e]
    show _ = stepY M (iterY M (x - M) R.toNat) (R.toNat : Nat)
    rw [← h.ye, e2]
  · rw [e]
    intro i hi
    rcases Nat.lt_or_ge i R.toNat with a | a
    · exact h.ag i a
    · have : i = R.toNat := by omega
      subst this
      rw [← h.ye]; exact g
theorem wi_n {x M y R : Int} (h : WI x M y R) (g : Again M y R.toNat) : 1 ≤ M * (M + rsn y R) ∧ 1 ≤ M := by
  have p := wi_pos h g
  have := h.pre.sc.lo
  refine ⟨?_, this⟩
  have := Int.mul_le_mul this p.1 (by omega) (by omega)
  omega
theorem wi_den {x M y R : Int} (h : WI x M y R) (g : Again M y R.toNat) : 0 < M + sqN (M * (M + rsn y R)) M := by
  have p := wi_n h g
  have := (sqN_sq p.1 p.2).1
  omega
theorem wi_R {x M y R : Int} (h : WI x M y R) (g : ¬ Again M y R.toNat) : R = (Rf x M : Nat) ∧ y = iterY M (x - M) (Rf x M) := by
  have := Rf_eq (x := x) (M := M) (j := R.toNat) (by have := h.r1; omega) h.ag (by rw [← h.ye]; exact g)
  rw [this, ← h.ye]
  have := h.r0
  omega
end Mine

end
section
open PySem PySem.W PyProof.Rows
namespace Mine
open Lg
/-- a number whose size no division minds -/
structure Sz (b : Int) : Prop where
  lo : -(2 ^ 8000) < b
  hi : b < 2 ^ 8000
theorem Sz.log {b : Int} (h : Sz b) : b.natAbs.log2 < 9000 := by
  by_cases h0 : b.natAbs = 0
  · rw [h0]; decide +kernel
  · have h1 := h.lo
    have h2 := h.hi
    have : b.natAbs < 2 ^ 8000 := by
      have : ((2 ^ 8000 : Nat) : Int) = (2 : Int) ^ 8000 := by push_cast; rfl
      generalize (2 : Int) ^ 8000 = B at *
      generalize (2 : Nat) ^ 8000 = C at *
      omega
    have := (Nat.log2_lt h0).mpr this
    omega
theorem Sz.of_bits {b : Int} {m : Nat} (h : Builtin.Int.intBits b ≤ m) (hm : m ≤ 8000) : Sz b := by
  rw [PySem.intBits_le_iff] at h
  have h3 : (2 : Nat) ^ m ≤ 2 ^ 8000 := Nat.pow_le_pow_right (by decide) hm
  have : ((2 ^ 8000 : Nat) : Int) = (2 : Int) ^ 8000 := by push_cast; rfl
  generalize hB : (2 : Int) ^ 8000 = B at *
  generalize hC : (2 : Nat) ^ 8000 = C at *
  generalize (2 : Nat) ^ m = D at *
  constructor
  · rw [hB]; omega
  · rw [hB]; omega
structure SqPre (n a : Int) : Prop where
  hn : 1 ≤ n
  ha : 1 ≤ a
  nz : Sz n
  az : Sz a
structure SI (n a b : Int) : Prop where
  hn : 1 ≤ n
  ha : 1 ≤ a
  hb : b = 0 ∨ (1 ≤ b ∧ a = nxt n b)
  nz : Sz n
  az : Sz a
theorem SI.log {n a b : Int} (h : SI n a b) : a.natAbs.log2 < 9000 := h.az.log
def mu (n a b : Int) : Nat := if a = b then 0 else if n ≤ a * a + a then a.toNat + 1 else n.toNat + 2
theorem si_start {n a : Int} (h : (1 ≤ n ∧ 1 ≤ a) ∧ SqPre n a) : SI n a 0 ∧ 1 ≤ a := ⟨⟨h.1.1, h.1.2, Or.inl rfl, h.2.nz, h.2.az⟩, h.1.2⟩
theorem si_up {n a b : Int} (h' : SI n a b) : SI n ((a - (-n).fdiv a).fdiv (2 ^ Int.toNat 1)) a ∧ 1 ≤ (a - (-n).fdiv a).fdiv (2 ^ Int.toNat 1) := by
  have e : (a - (-n).fdiv a).fdiv (2 ^ Int.toNat 1) = nxt n a := rfl
  rw [e]
  have h : SI n a b ∧ 1 ≤ a := ⟨h', h'.ha⟩
  have g := nxt_ge h.2 h.1.hn
  refine ⟨⟨h.1.hn, g.1, Or.inr ⟨h.2, rfl⟩, h'.nz, ?_⟩, g.1⟩
  have n1 := h'.nz.hi
  have n2 := h'.az.hi
  have n3 := h'.az.lo
  have hn := h'.hn
  have ha := h'.ha
  by_cases c : n ≤ a * a + a
  · have l := nxt_le ha c
    generalize hB : (2 : Int) ^ 8000 = B at *
    exact ⟨by rw [hB]; omega, by rw [hB]; omega⟩
  · have l := nxt_le' ha hn (by omega)
    generalize hB : (2 : Int) ^ 8000 = B at *
    exact ⟨by rw [hB]; omega, by rw [hB]; omega⟩
theorem si_mu {n a b : Int} (h' : SI n a b) (hne : a ≠ b) : mu n ((a - (-n).fdiv a).fdiv (2 ^ Int.toNat 1)) a < mu n a b := by
  have e : (a - (-n).fdiv a).fdiv (2 ^ Int.toNat 1) = nxt n a := rfl
  rw [e]
  have ha := h'.ha
  have hn := h'.hn
  have g := nxt_ge ha hn
  unfold mu
  rw [if_neg hne]
  by_cases c : n ≤ a * a + a
  · rw [if_pos c]
    have l := nxt_le ha c
    by_cases d : nxt n a = a
    · rw [if_pos d]; omega
    · rw [if_neg d, if_pos g.2]; omega
  · rw [if_neg c]
    have l := nxt_le' ha hn (by omega)
    by_cases d : nxt n a = a
    · rw [if_pos d]; omega
    · rw [if_neg d, if_pos g.2]; omega
theorem sq_tree {n a₀ a b : Int} (p' : (1 ≤ n ∧ 1 ≤ a₀) ∧ SqPre n a₀) (h' : SI n a b) (e : a = b) : a = sqN n a₀ := by
  have p := p'.1
  have h : SI n a b ∧ 1 ≤ a := ⟨h', h'.ha⟩
  have f : nxt n a = a := by
    rcases h.1.hb with x | x
    · have := h.2; omega
    · rw [← e] at x; exact x.2.symm
  exact isSq_unique (nxt_fix h.2 f) (sqN_sq p.1 p.2)
theorem str_ok {M : Int} (h : Scale M) : M.natAbs.log2 < 1920 := by
  have h1 := h.lo
  have h2 := h.hi
  refine PyProof.Rows.shown (N := 2 ^ 1920) ?_ ?_ (Int.le_refl _)
  · have : (0 : Int) < 2 ^ 1920 := Int.pow_pos (by decide)
    omega
  · have : (10 : Int) ^ 200 < 2 ^ 1920 := by decide +kernel
    omega
theorem dg_bound {M : Int} (h : Scale M) : dg M ≤ 201 := by
  have h1 := h.lo
  have h2 := h.hi
  refine dg_le (by omega) (by decide) ?_
  have : (10 : Int) ^ 200 < 10 ^ 201 := by decide +kernel
  omega
theorem len_ok {M : Int} (h : Scale M) : ((Str.ofString (toString M)).length : Int) < 9223372036854775808 := by
  have := dg_bound h
  unfold dg at this
  omega
theorem bits_len {M : Int} (h : Scale M) : Builtin.Int.intBits ((Str.ofString (toString M)).length : Int) ≤ 64 := by
  have := dg_bound h
  unfold dg at this
  rw [PySem.intBits_le_iff]
  omega
theorem TI_bound {M : Int} (h : Scale M) : 1 ≤ TI M ∧ TI M ≤ 84 := by
  have := dg_bound h
  have := TI_facts (M := M) (by have := h.lo; omega)
  omega
section
variable {prog : Program} {w : World} {A : Around} {E : Value → Shared → Prop} {s : Shared} {t u : Tok} {Q : Value → Shared → Prop}
theorem T_neg {M : Int} (hS : Scale M) (h : ∀ T : Int, T = TI M → 1 ≤ T → T ≤ 84 → Q (.int T s.toks) { s with toks := s.toks + 1 }) :
    wpAny (model prog w) A (unaryOp .USub (.int ((-10 * ((Str.ofString (toString M)).length : Int)).fdiv (3 * 8)) t)) Q E s := by
  refine PyProof.Rows.neg_int ?_
  have e : -((-10 * ((Str.ofString (toString M)).length : Int)).fdiv (3 * 8)) = TI M := rfl
  exact h _ e (by rw [e]; exact (TI_bound hS).1) (by rw [e]; exact (TI_bound hS).2)
end
theorem bits_divN {a b : Int} {m : Nat} (h : Builtin.Int.intBits a ≤ m) : Builtin.Int.intBits (divN a b) ≤ m + 1 := by
  have f := PyProof.Rows.bits_fdiv (b := b) h
  rw [PySem.intBits_le_iff] at *
  have h2 : 1 ≤ 2 ^ m := Nat.one_le_two_pow
  unfold divN
  rw [Nat.pow_succ]
  split <;> omega
theorem bits_rsn {a b : Int} {m : Nat} (h : Builtin.Int.intBits a ≤ m) : Builtin.Int.intBits (rsn a b) ≤ m + 1 := bits_divN h
theorem sz_scale {M : Int} (h : Scale M) : Sz M := Sz.of_bits (bits_scale h) (by decide)
theorem wi_sq {x M y R : Int} (h : WI x M y R) (g : Again M y R.toNat) : (1 ≤ M * (M + rsn y R) ∧ 1 ≤ M) ∧ SqPre (M * (M + rsn y R)) M := by
  have p := wi_n h g
  refine ⟨p, p.1, p.2, ?_, sz_scale h.pre.sc⟩
  exact Sz.of_bits (PyProof.Rows.bits_mul (bits_scale h.pre.sc) (PyProof.Rows.bits_add (bits_scale h.pre.sc) (bits_rsn (bits_y h)))) (by decide)
theorem wi_dv {x M y R : Int} (h : WI x M y R) (g : Again M y R.toNat) : 0 < M + sqN (M * (M + rsn y R)) M ∧ Sz (M + sqN (M * (M + rsn y R)) M) := by
  have d := wi_den h g
  refine ⟨d, ?_⟩
  have p := wi_sq h g
  obtain ⟨s0, s1, s2⟩ := sqN_sq p.1.1 p.1.2
  have hb := PyProof.Rows.bits_add (bits_scale h.pre.sc) (PyProof.Rows.bits_mul (bits_scale h.pre.sc) (PyProof.Rows.bits_add (bits_scale h.pre.sc) (bits_rsn (b := R) (bits_y h))))
  have hz := Sz.of_bits hb (by decide)
  have hs : sqN (M * (M + rsn y R)) M ≤ M * (M + rsn y R) := by
    generalize sqN (M * (M + rsn y R)) M = s at *
    have : s * 1 ≤ s * s := Int.mul_le_mul_of_nonneg_left s0 (by omega)
    rcases Int.lt_or_le s 2 with x | x
    · have := p.1.1; omega
    · have : s * 2 ≤ s * s := Int.mul_le_mul_of_nonneg_left x (by omega)
      omega
  have h1 := hz.hi
  have h2 := hz.lo
  generalize hB : (2 : Int) ^ 8000 = B at *
  have : 0 < B := by rw [← hB]; exact Int.pow_pos (by decide)
  exact ⟨by rw [hB]; omega, by rw [hB]; omega⟩
theorem wi_up' {x M y R : Int} (h : WI x M y R) (g : Again M y R.toNat) : WI x M (divN (M * y * 2 ^ Int.toNat 1) (M + sqN (M * (M + rsn y R)) M)) (R + 1) ∧ 0 ≤ R + 1 ∧ R + 1 ≤ 10 := by
  have e : M * y * 2 ^ Int.toNat 1 = 2 * (M * y) := by rw [show (2 : Int) ^ Int.toNat 1 = 2 from rfl, Int.mul_comm]
  rw [e]
  exact wi_up h g
theorem wi_mu {x M y R : Int} (h : WI x M y R) (g : Again M y R.toNat) : (10 - (R + 1)).toNat < (10 - R).toNat := by
  have := (wi_pos h g).2
  have := h.r0
  omega
theorem T_dv {T : Int} (h1 : 1 ≤ T) (h2 : T ≤ 84) : 0 < T ∧ Sz T := ⟨by omega, Sz.of_bits (m := 64) (by rw [PySem.intBits_le_iff]; omega) (by decide)⟩
theorem k_dv {k : Int} (h1 : 1 ≤ k) (h2 : k ≤ 84) : 0 < k ∧ Sz k := T_dv h1 h2
theorem bits_part : Builtin.Int.intBits (10 ^ Int.toNat 20) ≤ 70 := by rw [PySem.intBits_le_iff]; decide +kernel
theorem M_dv {M : Int} (h : Scale M) : 0 < M ∧ Sz M := ⟨by have := h.lo; omega, sz_scale h⟩
theorem na_low {x M y R : Int} (h : WI x M y R) (hR : R ≤ 8) (g : ¬ M ≤ (if y < 0 then -y else y) * 2 ^ (8 - R).toNat) : ¬ Again M y R.toNat := fun a => g ((test_low h hR).mpr a)
theorem na_high {x M y R : Int} (h : WI x M y R) (hR : 8 < R) (g : ¬ M ≤ (if y < 0 then -y else y).fdiv (2 ^ (R - 8).toNat)) : ¬ Again M y R.toNat := fun a => g ((test_high h hR).mpr a)
/-- the rows' loop -/
def wFold (M ys w : Int) (ks : List Int) : Int := ks.foldl (fun w k => divN M k - divN (ys * w) M) w
structure WB (M ys w₀ : Int) (pre : List Int) (w : Int) : Prop where
  sc : Scale M
  yb : (ys.natAbs : Int) ≤ M
  we : w = wFold M ys w₀ pre
  lb : pre.length ≤ 100
  wb : (w.natAbs : Int) ≤ (pre.length + 1) * (M + 2)
theorem divN_abs {a b : Int} (hb : 0 < b) : ((divN a b).natAbs : Int) ≤ (a.natAbs : Int) + 1 := by
  have := divN_facts (a := a) hb
  have h1 : divN a b ≤ (a.natAbs : Int) + 1 := by
    rcases Int.lt_or_le ((a.natAbs : Int) + 1) (divN a b) with x | x
    · have m := Int.mul_le_mul_of_nonneg_left (show (a.natAbs : Int) + 2 ≤ divN a b by omega) (show 0 ≤ b by omega)
      have m2 := Int.mul_le_mul_of_nonneg_right (show 1 ≤ b by omega) (show 0 ≤ (a.natAbs : Int) by omega)
      rw [Int.mul_add] at m
      omega
    · exact x
  have h2 : -((a.natAbs : Int) + 1) ≤ divN a b := by
    rcases Int.lt_or_le (divN a b) (-((a.natAbs : Int) + 1)) with x | x
    · have m := Int.mul_le_mul_of_nonneg_left (show divN a b ≤ -((a.natAbs : Int) + 2) by omega) (show 0 ≤ b by omega)
      have m2 := Int.mul_le_mul_of_nonneg_right (show 1 ≤ b by omega) (show 0 ≤ (a.natAbs : Int) by omega)
      rw [Int.mul_neg, Int.mul_add] at m
      omega
    · exact x
  omega
/-- a quotient by M of ys * w, ys at most M, is at most w and one more -/
theorem divN_mulM {ys w M : Int} (hM : 1 ≤ M) (hy : (ys.natAbs : Int) ≤ M) : ((divN (ys * w) M).natAbs : Int) ≤ (w.natAbs : Int) + 1 := by
  have := divN_facts (a := ys * w) (b := M) (by omega)
  have p : ((ys * w).natAbs : Int) ≤ M * (w.natAbs : Int) := by
    rw [Int.natAbs_mul]
    push_cast
    exact Int.mul_le_mul_of_nonneg_right hy (by omega)
  have h1 : divN (ys * w) M ≤ (w.natAbs : Int) + 1 := by
    rcases Int.lt_or_le ((w.natAbs : Int) + 1) (divN (ys * w) M) with x | x
    · have m := Int.mul_le_mul_of_nonneg_left (show (w.natAbs : Int) + 2 ≤ divN (ys * w) M by omega) (show 0 ≤ M by omega)
      rw [Int.mul_add] at m
      omega
    · exact x
  have h2 : -((w.natAbs : Int) + 1) ≤ divN (ys * w) M := by
    rcases Int.lt_or_le (divN (ys * w) M) (-((w.natAbs : Int) + 1)) with x | x
    · have m := Int.mul_le_mul_of_nonneg_left (show divN (ys * w) M ≤ -((w.natAbs : Int) + 2) by omega) (show 0 ≤ M by omega)
      rw [Int.mul_neg, Int.mul_add] at m
      omega
    · exact x
  omega
theorem ys_bound {M y R : Int} (hM : 1 ≤ M) (hR : 0 ≤ R) (g : ¬ Again M y R.toNat) : ((rsn y R).natAbs : Int) ≤ M := by
  unfold Again at g
  have r := divN_facts (a := y) (pw_pos R.toNat)
  rw [← rsn_divN] at r
  have p := Lg.pw_pos R.toNat
  generalize (2 : Int) ^ R.toNat = K at *
  have mk : K ≤ M * K := by
    have := Int.mul_le_mul_of_nonneg_right hM (show 0 ≤ K by omega); omega
  rcases Int.lt_or_le M ((rsn y R).natAbs : Int) with x | x
  · exfalso
    rcases Int.le_total 0 (rsn y R) with z | z
    · have := Int.mul_le_mul_of_nonneg_left (show M + 1 ≤ rsn y R by omega) (show 0 ≤ K by omega)
      rw [Int.mul_add, Int.mul_comm K M] at this
      omega
    · have := Int.mul_le_mul_of_nonneg_left (show rsn y R ≤ -(M + 1) by omega) (show 0 ≤ K by omega)
      rw [Int.mul_neg, Int.mul_add, Int.mul_comm K M] at this
      omega
  · exact x
theorem wb_start {x M y R T : Int} (h : WI x M y R) (g : ¬ Again M y R.toNat) (h1 : 1 ≤ T) : WB M (rsn y R) (divN M T) [] (divN M T) := by
  have hM := h.pre.sc.lo
  refine ⟨h.pre.sc, ys_bound hM h.r0 g, rfl, by decide, ?_⟩
  have := divN_abs (a := M) (b := T) (by omega)
  simp only [List.length_nil]
  omega
theorem wb_up {M ys w₀ w k : Int} {pre : List Int} (h : WB M ys w₀ pre w) (hk : 1 ≤ k) (hl : pre.length < 100) : WB M ys w₀ (pre ++ [k]) (divN M k - divN (ys * w) M) := by
  have hM := h.sc.lo
  refine ⟨h.sc, h.yb, ?_, ?_, ?_⟩
  · unfold wFold
    rw [List.foldl_append, h.we]
    rfl
  · simp; omega
  · have a := divN_abs (a := M) (b := k) (by omega)
    have b := divN_mulM (w := w) hM h.yb
    have c := h.wb
    simp only [List.length_append, List.length_cons, List.length_nil]
    have e : (((pre.length + (0 + 1) : Nat) : Int) + 1) * (M + 2) = ((pre.length : Int) + 1) * (M + 2) + (M + 2) := by
      push_cast; rw [Int.add_mul]; omega
    rw [e]
    generalize ((pre.length : Int) + 1) * (M + 2) = z at *
    omega
theorem bits_w {M ys w₀ w : Int} {pre : List Int} (h : WB M ys w₀ pre w) : Builtin.Int.intBits w ≤ 720 := by
  have b := bits_scale h.sc
  have c := h.wb
  have l := h.lb
  have hM := h.sc.lo
  rw [PySem.intBits_le_iff] at *
  have m := Int.mul_le_mul_of_nonneg_right (show (pre.length : Int) + 1 ≤ 101 by omega) (show 0 ≤ M + 2 by omega)
  have e : (2 : Nat) ^ 720 = 1048576 * 2 ^ 700 := by rw [show 720 = 20 + 700 from rfl, Nat.pow_add]
  generalize ((pre.length : Int) + 1) * (M + 2) = z at *
  generalize (2 : Nat) ^ 700 = B at *
  omega
/-- the loop's list, row by row -/
theorem wFold_down (M ys : Int) : ∀ (n : Nat) (w : Int), wFold M ys w (downKs (n : Int) n) = wDn M ys n w
  | 0, w => rfl
  | n + 1, w => by
    have e : downKs ((n + 1 : Nat) : Int) (n + 1) = ((n : Int) + 1) :: downKs (n : Int) n := by
      unfold downKs
      rw [List.range_succ_eq_map, List.map_cons, List.map_map]
      refine List.cons_eq_cons.mpr ⟨by omega, List.map_congr_left fun i _ => ?_⟩
      simp only [Function.comp]
      omega
    rw [e, wDn]
    show wFold M ys (divN M ((n : Int) + 1) - divN (ys * w) M) (downKs (n : Int) n) = _
    exact wFold_down M ys n _
theorem ilog_tree {x M y R T w : Int} {n : Nat} (h : WI x M y R) (g : ¬ Again M y R.toNat) (hT : T = TI M) (h1 : 1 ≤ T) (hb : WB M (rsn y R) (divN M T) (downKs (T - 1) n) w) (hn : (n : Int) = T - 1) : divN (w * y) M = ilog x M := by
  obtain ⟨r, e⟩ := wi_R h g
  unfold ilog ilogFin
  rw [← e, ← r]
  have tt : TT M = T.toNat := by unfold TT; rw [hT]
  have ec : ((TT M : Nat) : Int) = T := by rw [tt]; omega
  have en : TT M - 1 = n := by rw [tt]; omega
  rw [ec, en, hb.we, ← wFold_down, hn]
end Mine
namespace Mine
open Lg
/-- what the law's own logarithm is handed -/
structure LP (a b unit : Int) : Prop where
  hb : 0 < b
  hab : b ≤ a
  h10 : a ≤ 10 * b
  hu : 0 < unit
  ab : Builtin.Int.intBits a ≤ 720
  bb : Builtin.Int.intBits b ≤ 720
  ub : Builtin.Int.intBits unit ≤ 800
structure LL (a b unit power low k : Int) : Prop where
  lp : LP a b unit
  ex : ∃ j : Nat, k = 2 * (j : Int) + 1 ∧ power = pw a b unit j ∧ low = lows a b unit j
  p0 : 0 ≤ power
  k0 : 1 ≤ k
  pb : power ≤ unit
  kb : k + 2 * power ≤ 2 * unit + 1
theorem sum_pos {a b unit : Int} (h : LP a b unit) : 0 < a + b := by have := h.hb; have := h.hab; omega
theorem pw_le {a b unit : Int} (h : LP a b unit) (j : Nat) : pw a b unit j ≤ unit := by
  have hb := h.hb
  have hab := h.hab
  have hu := h.hu
  induction j with
  | zero =>
    rw [pw]
    have f := fdiv_b (a := unit * (a - b)) (b := a + b) (by omega)
    rcases Int.lt_or_le unit ((unit * (a - b)).fdiv (a + b)) with x | x
    · have m := Int.mul_le_mul_of_nonneg_left (show unit ≤ (unit * (a - b)).fdiv (a + b) by omega) (show 0 ≤ a + b by omega)
      have m2 := Int.mul_pos hu hb
      have e : (a + b) * unit = unit * (a - b) + 2 * (unit * b) := by grind
      omega
    · exact x
  | succ j ih =>
    have p0 := pw_nonneg hb hab h.h10 hu j
    rw [pw]
    have hs : 0 < (a + b) ^ 2 := by rw [Int.pow_succ, Int.pow_succ, Int.pow_zero, Int.one_mul]; exact Int.mul_pos (by omega) (by omega)
    have f := fdiv_b (a := pw a b unit j * (a - b) ^ 2) hs
    have tu : (a - b) ^ 2 ≤ (a + b) ^ 2 := by
      rw [Int.pow_succ, Int.pow_succ, Int.pow_zero, Int.one_mul, Int.pow_succ, Int.pow_succ, Int.pow_zero, Int.one_mul]
      exact Int.mul_le_mul (by omega) (by omega) (by omega) (by omega)
    have m := Int.mul_le_mul_of_nonneg_left tu p0
    generalize (pw a b unit j * (a - b) ^ 2).fdiv ((a + b) ^ 2) = q at *
    generalize (a + b) ^ 2 = U at *
    rcases Int.lt_or_le (pw a b unit j) q with x | x
    · have m3 := Int.mul_le_mul_of_nonneg_left (show pw a b unit j + 1 ≤ q by omega) (show 0 ≤ U by omega)
      rw [Int.mul_add, Int.mul_comm U] at m3
      omega
    · omega
theorem ll_start {a b unit : Int} (h : LP a b unit) : LL a b unit ((unit * (a - b)).fdiv (a + b)) 0 1 :=
  ⟨h, ⟨0, by decide, rfl, rfl⟩, pw_nonneg h.hb h.hab h.h10 h.hu 0, by decide, pw_le h 0, by have : (unit * (a - b)).fdiv (a + b) ≤ unit := pw_le h 0; omega⟩
theorem ll_mu {a b unit power low k : Int} (h : LL a b unit power low k) (hp : 0 < power) : ((power * (a - b) ^ Int.toNat 2).fdiv ((a + b) ^ Int.toNat 2)).toNat < power.toNat := by
  have hb := h.lp.hb
  have hab := h.lp.hab
  have hs : 0 < (a + b) ^ Int.toNat 2 := by
    show 0 < (a + b) ^ 2
    rw [Int.pow_succ, Int.pow_succ, Int.pow_zero, Int.one_mul]; exact Int.mul_pos (by omega) (by omega)
  have f := fdiv_b (a := power * (a - b) ^ Int.toNat 2) hs
  have tu : (a - b) ^ Int.toNat 2 < (a + b) ^ Int.toNat 2 := by
    show (a - b) ^ 2 < (a + b) ^ 2
    have e : (a + b) ^ 2 = (a - b) ^ 2 + 4 * (a * b) := by grind
    have := Int.mul_pos (show 0 < a by omega) hb
    omega
  have m := Int.mul_lt_mul_of_pos_left tu hp
  generalize (power * (a - b) ^ Int.toNat 2).fdiv ((a + b) ^ Int.toNat 2) = q at *
  generalize (a + b) ^ Int.toNat 2 = U at *
  rcases Int.lt_or_le q power with x | x
  · omega
  · have m3 := Int.mul_le_mul_of_nonneg_left x (show 0 ≤ U by omega)
    rw [Int.mul_comm U power] at m3
    omega
theorem ll_up {a b unit power low k : Int} (h : LL a b unit power low k) (hp : 0 < power) : LL a b unit ((power * (a - b) ^ Int.toNat 2).fdiv ((a + b) ^ Int.toNat 2)) (low + power.fdiv k) (k + 2) := by
  have mu := ll_mu h hp
  obtain ⟨j, e1, e2, e3⟩ := h.ex
  have e : (power * (a - b) ^ Int.toNat 2).fdiv ((a + b) ^ Int.toNat 2) = pw a b unit (j + 1) := by rw [pw, e2]; rfl
  rw [e] at mu ⊢
  have kb := h.kb
  have q0 := pw_nonneg h.lp.hb h.lp.hab h.lp.h10 h.lp.hu (j + 1)
  refine ⟨h.lp, ⟨j + 1, by push_cast; omega, rfl, ?_⟩, q0, by have := h.k0; omega, pw_le h.lp _, by omega⟩
  rw [lows, e3, e2, e1]
theorem ll_under {a b unit power low k : Int} (h : LL a b unit power low k) : (a + b) ^ Int.toNat 2 ≠ 0 ∧ ((a + b) ^ Int.toNat 2).natAbs.log2 < 9000 := by
  have := sum_pos h.lp
  refine ⟨?_, ?_⟩
  · have : 0 < (a + b) ^ Int.toNat 2 := Int.pow_pos this
    omega
  · refine (Sz.of_bits (m := 8000) ?_ (Nat.le_refl _)).log
    have e : (a + b) ^ Int.toNat 2 = (a + b) * (a + b) := by show (a + b) ^ 2 = _; rw [Int.pow_succ, Int.pow_succ, Int.pow_zero, Int.one_mul]
    rw [e]
    have s := PyProof.Rows.bits_add h.lp.ab h.lp.bb
    exact Nat.le_trans (PyProof.Rows.bits_mul s s) (by decide)
theorem lp_sum {a b unit : Int} (h : LP a b unit) : a + b ≠ 0 ∧ (a + b).natAbs.log2 < 9000 := by
  have := sum_pos h
  exact ⟨by omega, (Sz.of_bits (PyProof.Rows.bits_add h.ab h.bb) (by decide)).log⟩
theorem bits_power {a b unit power low k : Int} (h : LL a b unit power low k) : Builtin.Int.intBits power ≤ 800 := by
  have := h.lp.ub
  rw [PySem.intBits_le_iff] at *
  have := h.p0
  have := h.pb
  omega
theorem ll_k {a b unit power low k : Int} (h : LL a b unit power low k) : k ≠ 0 ∧ k.natAbs.log2 < 9000 := by
  have k0 := h.k0
  refine ⟨by omega, (Sz.of_bits (m := 802) ?_ (by decide)).log⟩
  have u := h.lp.ub
  rw [PySem.intBits_le_iff] at *
  have := h.kb
  have := h.p0
  have e : (2 : Nat) ^ 802 = 4 * 2 ^ 800 := by rw [show 802 = 2 + 800 from rfl, Nat.pow_add]
  generalize (2 : Nat) ^ 800 = B at *
  omega
theorem bits_sq {a : Int} {m : Nat} (h : Builtin.Int.intBits a ≤ m) : Builtin.Int.intBits (a ^ Int.toNat 2) ≤ m + m := by
  have e : a ^ Int.toNat 2 = a * a := by show a ^ 2 = _; rw [Int.pow_succ, Int.pow_succ, Int.pow_zero, Int.one_mul]
  rw [e]
  exact PyProof.Rows.bits_mul h h
theorem pow2_ok {a : Int} {m : Nat} (h : Builtin.Int.intBits a ≤ m) (hm : m ≤ 5000) : (Builtin.Int.intBits a : Int) * 2 ≤ 2 ^ 27 := by
  have e : (2 : Int) ^ 27 = 134217728 := by decide
  rw [e]; omega
theorem lp_pos {x M : Int} (P : Pre x M) (h : M ≤ x) : LP x M (M * 10 ^ Int.toNat 20) := by
  have hM := P.sc.lo
  refine ⟨by omega, h, P.hi, ?_, Nat.le_trans (bits_x P) (by decide), Nat.le_trans (bits_scale P.sc) (by decide), Nat.le_trans (PyProof.Rows.bits_mul (bits_scale P.sc) bits_part) (by decide)⟩
  exact Int.mul_pos (by omega) (by decide +kernel)
theorem lp_neg {x M : Int} (P : Pre x M) (h : ¬ M ≤ x) : LP M x (M * 10 ^ Int.toNat 20) := by
  have hM := P.sc.lo
  have hx := P.lo
  refine ⟨by omega, by omega, P.lo, ?_, Nat.le_trans (bits_scale P.sc) (by decide), Nat.le_trans (bits_x P) (by decide), Nat.le_trans (PyProof.Rows.bits_mul (bits_scale P.sc) bits_part) (by decide)⟩
  exact Int.mul_pos (by omega) (by decide +kernel)
/-- the law's bounds, as its loop leaves them -/
theorem ll_LO {a b unit power low k : Int} (h : LL a b unit power low k) : LO ((2 * low : Int) / (unit : Rat)) ((a : Rat) / b) := by
  obtain ⟨j, e1, e2, e3⟩ := h.ex
  rw [e3]
  exact law_LO h.lp.hb h.lp.hab h.lp.h10 h.lp.hu j
theorem ll_UP {a b unit power low k : Int} (h : LL a b unit power low k) (hp : ¬ 0 < power) : UP ((2 * low + 4 * k + 4 : Int) / (unit : Rat)) ((a : Rat) / b) := by
  obtain ⟨j, e1, e2, e3⟩ := h.ex
  rw [e3, e1]
  exact law_UP h.lp.hb h.lp.hab h.lp.h10 h.lp.hu j (by rw [← e2]; omega)
theorem cross {a b c d : Int} (hb : 0 < b) (hd : 0 < d) (h : (a : Rat) * (1 / b) ≤ (c : Rat) / d) : a * d ≤ c * b := by
  have hbr := clt hb
  have hdr := clt hd
  push_cast at hbr hdr
  have m := Rat.mul_le_mul_of_nonneg_left h (show (0 : Rat) ≤ (b : Rat) * d by have := Rat.mul_pos hbr hdr; grind)
  have e1 : (b : Rat) * d * ((a : Rat) * (1 / b)) = a * d := by grind
  have e2 : (b : Rat) * d * ((c : Rat) / d) = c * b := by grind
  rw [e1, e2] at m
  have : ((a * d : Int) : Rat) ≤ ((c * b : Int) : Rat) := by push_cast; exact m
  exact Rat.intCast_le_intCast.mp this
theorem cross' {a b c d : Int} (hb : 0 < b) (hd : 0 < d) (h : (c : Rat) / d ≤ (a : Rat) * (1 / b)) : c * b ≤ a * d := by
  have hbr := clt hb
  have hdr := clt hd
  push_cast at hbr hdr
  have m := Rat.mul_le_mul_of_nonneg_left h (show (0 : Rat) ≤ (b : Rat) * d by have := Rat.mul_pos hbr hdr; grind)
  have e1 : (b : Rat) * d * ((a : Rat) * (1 / b)) = a * d := by grind
  have e2 : (b : Rat) * d * ((c : Rat) / d) = c * b := by grind
  rw [e1, e2] at m
  have : ((c * b : Int) : Rat) ≤ ((a * d : Int) : Rat) := by push_cast; exact m
  exact Rat.intCast_le_intCast.mp this
theorem end_pos {x M power low k : Int} (P : Pre x M) (hx : M ≤ x) (L : LL x M (M * 10 ^ Int.toNat 20) power low k) (hp : ¬ 0 < power) :
    (ilog x M - 15) * 10 ^ Int.toNat 20 ≤ 2 * low + 4 * k + 4 ∧ 2 * low ≤ (ilog x M + 15) * 10 ^ Int.toNat 20 := by
  have hM := P.sc.lo
  have g := (ilog_good P).1
  rw [if_pos hx] at g
  have hu := L.lp.hu
  have p20 : (0 : Int) < 10 ^ Int.toNat 20 := by decide +kernel
  generalize (10 : Int) ^ Int.toNat 20 = D at *
  constructor
  · have a := g.1.le (ll_UP L hp)
    have c := cross (a := ilog x M - 15) (b := M) (c := 2 * low + 4 * k + 4) (by omega) hu (by push_cast at a ⊢; exact a)
    have e : (ilog x M - 15) * (M * D) = M * ((ilog x M - 15) * D) := by grind
    rw [e, Int.mul_comm _ M] at c
    exact Int.le_of_mul_le_mul_left c (by omega)
  · have a := (ll_LO L).le g.2
    have c := cross' (a := ilog x M + 15) (b := M) (c := 2 * low) (by omega) hu (by push_cast at a ⊢; exact a)
    have e : (ilog x M + 15) * (M * D) = M * ((ilog x M + 15) * D) := by grind
    rw [e, Int.mul_comm _ M] at c
    exact Int.le_of_mul_le_mul_left c (by omega)
theorem end_neg {x M power low k : Int} (P : Pre x M) (hx : ¬ M ≤ x) (L : LL M x (M * 10 ^ Int.toNat 20) power low k) (hp : ¬ 0 < power) :
    (ilog x M - 22) * 10 ^ Int.toNat 20 ≤ -(2 * low) ∧ -(2 * low + 4 * k + 4) ≤ (ilog x M + 22) * 10 ^ Int.toNat 20 := by
  have hM := P.sc.lo
  have hx0 : 0 < x := by have := P.lo; omega
  have g := (ilog_good P).1
  rw [if_neg hx] at g
  have hu := L.lp.hu
  have hmr := clt (show (0 : Int) < M by omega)
  have hxr := clt hx0
  have hq : (0 : Rat) < (M : Rat) / x := by
    have := Rat.mul_pos hmr (inv_pos hxr); push_cast at *; grind
  have e : (1 : Rat) / ((M : Rat) / x) = (x : Rat) / M := by push_cast at *; grind
  have lo := (ll_UP L hp).inv hq
  have up := (ll_LO L).inv hq
  rw [e] at lo up
  have p20 : (0 : Int) < 10 ^ Int.toNat 20 := by decide +kernel
  generalize (10 : Int) ^ Int.toNat 20 = D at *
  constructor
  · have a := g.1.le up
    have c := cross (a := ilog x M - 22) (b := M) (c := -(2 * low)) (by omega) hu (by push_cast at a ⊢; grind)
    have e : (ilog x M - 22) * (M * D) = M * ((ilog x M - 22) * D) := by grind
    rw [e, Int.mul_comm _ M] at c
    exact Int.le_of_mul_le_mul_left c (by omega)
  · have a := lo.le g.2
    have c := cross' (a := ilog x M + 22) (b := M) (c := -(2 * low + 4 * k + 4)) (by omega) hu (by push_cast at a ⊢; grind)
    have e : (ilog x M + 22) * (M * D) = M * ((ilog x M + 22) * D) := by grind
    rw [e, Int.mul_comm _ M] at c
    exact Int.le_of_mul_le_mul_left c (by omega)
end Mine
namespace Mine
open Lg
theorem fin_p1 {x M t power low k : Int} (ht : t = ilog x M) (P : Pre x M) (hx : M ≤ x) (L : LL x M (M * 10 ^ Int.toNat 20) power low k) (hp : ¬ 0 < power) (g : 2 * low + 4 * k + 4 < (t - 15) * 10 ^ Int.toNat 20) : False := by
  rw [ht] at g
  have := (end_pos P hx L hp).1
  omega
theorem fin_p2 {x M t power low k : Int} (ht : t = ilog x M) (P : Pre x M) (hx : M ≤ x) (L : LL x M (M * 10 ^ Int.toNat 20) power low k) (hp : ¬ 0 < power) (g : (t + 15) * 10 ^ Int.toNat 20 < 2 * low) : False := by
  rw [ht] at g
  have := (end_pos P hx L hp).2
  omega
theorem fin_n1 {x M t power low k : Int} (ht : t = ilog x M) (P : Pre x M) (hx : ¬ M ≤ x) (L : LL M x (M * 10 ^ Int.toNat 20) power low k) (hp : ¬ 0 < power) (g : -(2 * low) < (t - 22) * 10 ^ Int.toNat 20) : False := by
  rw [ht] at g
  have := (end_neg P hx L hp).1
  omega
theorem fin_n2 {x M t power low k : Int} (ht : t = ilog x M) (P : Pre x M) (hx : ¬ M ≤ x) (L : LL M x (M * 10 ^ Int.toNat 20) power low k) (hp : ¬ 0 < power) (g : (t + 22) * 10 ^ Int.toNat 20 < -(2 * low + 4 * k + 4)) : False := by
  rw [ht] at g
  have := (end_neg P hx L hp).2
  omega
theorem sign_of {x M t : Int} (ht : t = ilog x M) (P : Pre x M) : (0 < t ↔ M < x) ∧ (t < 0 ↔ x < M) := by
  rw [ht]; exact (ilog_good P).2
end Mine
namespace Mine
inductive Said : Prop
  | mk : Said
theorem ints_of_news {h₀ h : Heap} {L D : Addr} {a b : Int} {t u : Tok} {c : Nat} {r : List (Addr × Obj)} (_N : News h₀ L h ((D, ({ cls := .type "tuple", data := .seq #[.int a t, .int b u] c } : Obj)) :: r)) : IntsAre [.int a t, .int b u] [a, b] := IntsAre.cons _ _ (IntsAre.cons _ _ IntsAre.nil)
end Mine
namespace Mine
theorem two_carried {ys : List Value} {a b : Int} (h : CarriedAll ys (List.map (fun a => PyData.int (-a)) (List.filter (fun _ => true) [a, b]))) : ∃ t1 t2, ys = [Value.int (-a) t1, Value.int (-b) t2] := by
  have h2 : IntsAre ys ([a, b].map fun a => -a) := CarriedAll.intsOf (by simpa using h)
  cases h2 with | cons _ _ h => cases h with | cons _ _ h => cases h; exact ⟨_, _, rfl⟩
end Mine

end
/- x near M: the halvings lose little (for law 03) -/
namespace Lg
/-- one halving near 1 -/
theorem near_step {h k kr v a b q e : Rat} (hh : 0 < h) (hh0 : h ≤ 1 / 128) (k0 : 0 < k) (k1 : k ≤ 1) (kk : kr * k = 1)
    (ev : v = a * a + h * ((a - 1) * q - e * (a + b))) (eb : b = a + h * (q - e)) (he : Ab e (k / 4)) (hq : Ab (q * (1 + b)) (1 / 2 + b))
    (hb0 : 0 < b) (ha : Ab (a - 1) (k / 64)) :
    (∀ r, LO r a → LO (2 * r - 53 / 100 * h * k) v) ∧ (∀ r, UP r a → UP (2 * r + 53 / 100 * h * k) v) := by
  have a0 : 63 / 64 ≤ a := by obtain ⟨x, y⟩ := ha; grind
  have a1 : a ≤ 65 / 64 := by obtain ⟨x, y⟩ := ha; grind
  have bp : 0 < 1 + b := by grind
  have q1 : Ab q 1 := by
    obtain ⟨x, y⟩ := hq
    constructor
    · refine le_of_mul bp ?_; grind
    · refine le_of_mul bp ?_; grind
  have e1 : Ab e (1 / 4) := he.le (by grind)
  have hqe : Ab (q - e) (5 / 4) := by obtain ⟨x, y⟩ := q1; obtain ⟨z, w⟩ := e1; constructor <;> grind
  have hH : Ab h h := ⟨by grind, Rat.le_refl⟩
  have bu : b ≤ 1026 / 1000 := by
    have m := (hH.mul hqe).2
    grind
  have q2 : Ab q (754 / 1000) := by
    obtain ⟨x, y⟩ := hq
    constructor
    · refine le_of_mul bp ?_; grind
    · refine le_of_mul bp ?_; grind
  have hqe2 : Ab (q - e) (1004 / 1000) := by obtain ⟨x, y⟩ := q2; obtain ⟨z, w⟩ := e1; constructor <;> grind
  have bu2 : b ≤ a + 1004 / 128000 := by
    have m := (hH.mul hqe2).2
    grind
  have ab : Ab (a + b) (2 * a + 1004 / 128000) := ⟨by grind, by grind⟩
  have X : Ab (v - a * a) (h * k * (754 / 64000 + (2 * a + 1004 / 128000) / 4)) := by
    have m1 := ha.mul q2
    have m2 := he.mul ab
    have m3 := hH.mul (m1.add m2.neg)
    have : v - a * a = h * ((a - 1) * q + -(e * (a + b))) := by grind
    rw [this]
    refine m3.le ?_
    grind
  have hE : (754 / 64000 + (2 * a + 1004 / 128000) / 4) * (1 + 53 / 100 * h * k) ≤ 53 / 100 * (a * a) := by
    have hk : h * k ≤ 1 / 128 := by
      have := Rat.mul_le_mul_of_nonneg_left k1 (show 0 ≤ h by grind)
      grind
    have sq : 2 * a - 1 ≤ a * a := by
      have := ratAbs (x := a - 1); grind
    have m := Rat.mul_le_mul_of_nonneg_left hk (show 0 ≤ 754 / 64000 + (2 * a + 1004 / 128000) / 4 by grind)
    grind
  obtain ⟨_, r1, r2⟩ := back (show 0 < a by grind) hh k0 (show (0 : Rat) ≤ 53 / 100 by grind) X hE
  exact ⟨r1, r2⟩
theorem near_keeps {M x y z : Int} {j : Nat} {B : Rat} (hM : 128 ≤ M) (H : Halving M (2 ^ j) y (rsn y j) (sqN (M * (M + rsn y j)) M) z) (hz : 32 * z ≤ M) (hz2 : -M ≤ 32 * z) (K : Keeps M x y j B) : Keeps M x z (j + 1) (B + 53 / 100) := by
  have hm0 := clt (show (0 : Int) < M by omega)
  have hhp := inv_pos hm0
  have h2 := two_pos j
  have h2i := inv_pos h2
  have h21 : (1 : Rat) ≤ 2 ^ j := by have := pow_le_pow (show (0 : Rat) ≤ 1 by grind) (show (1 : Rat) ≤ 2 by grind) j; rwa [one_pow] at this
  obtain ⟨q, e, ev, eb, he, hq, _⟩ := Halving.rat H (h := 1 / M) (k := 1 / 2 ^ j) (v := vv M y j) (a := vv M z (j + 1)) (b := (sqN (M * (M + rsn y j)) M : Int) * (1 / (M : Rat))) rfl (by rw [cast_two]) rfl (a_eq j) rfl
  have hb := b_low (show 1 ≤ M by omega) H.s0
  have hh0 : 1 / (M : Rat) ≤ 1 / 128 := by have := inv_of (n := 128) (by decide) hM; push_cast at this; exact this
  push_cast at hm0 hhp
  obtain ⟨l, u⟩ := near_step (kr := 2 ^ j) hhp hh0 h2i (inv_le (by grind) h21 |> fun t => by grind) (by grind) ev eb he hq (by grind) (by
    rw [a_eq]
    have z1 := cle hz
    have z2 := cle hz2
    push_cast at z1 z2
    have mz : Ab ((z : Rat) * (1 / M)) (1 / 32) := by
      constructor
      · refine le_of_mul hm0 ?_
        have : (M : Rat) * (z * (1 / M)) = z := by grind
        grind
      · refine le_of_mul hm0 ?_
        have : (M : Rat) * (z * (1 / M)) = z := by grind
        grind
    have hI : Ab (1 / (2 : Rat) ^ j) (1 / 2 ^ j) := ⟨by grind, Rat.le_refl⟩
    have m := mz.mul hI
    have e : (1 : Rat) + z * (1 / 2 ^ j) * (1 / M) / 2 - 1 = z * (1 / M) * (1 / 2 ^ j) / 2 := by grind
    rw [e]
    obtain ⟨m1, m2⟩ := m
    constructor <;> grind)
  exact keeps_succ K l u
/-- x above M: the halvings do not grow -/
theorem Halving.pos_le {M K y ys s z : Int} (H : Halving M K y ys s z) (hy : 1 ≤ y) : z ≤ y := by
  obtain ⟨p1, p2, p3⟩ := H.poss hy
  obtain ⟨hM, hK, y1, y2, s0, s1, s2, z1, z2⟩ := H
  rcases Int.lt_or_le y z with x | x
  · have h1 := Int.mul_le_mul_of_nonneg_left (show y + 1 ≤ z by omega) (show 0 ≤ M + s by omega)
    have h2 := Int.mul_nonneg (show 0 ≤ s - M by omega) (show 0 ≤ y by omega)
    rw [Int.sub_mul] at h2
    rw [Int.mul_add, Int.add_mul M s y] at h1
    omega
  · exact x
/-- x below M: what one halving takes -/
theorem Halving.neg_t {M K y ys s z : Int} (H : Halving M K y ys s z) (hM : 128 ≤ M) (hy : y ≤ -1) (hb : -M ≤ 32 * y) :
    z ≤ -1 ∧ 0 ≤ -ys ∧ 2 * (K * (-ys)) ≤ 2 * (-y) + K ∧ s ≤ M ∧ 49 * (M - s) ≤ 25 * (-ys + 1) ∧ (M + s) * (2 * (-z) - 1) ≤ 4 * (M * (-y)) := by
  obtain ⟨p1, p2, p3⟩ := H.negs hy
  obtain ⟨hM0, hK, y1, y2, s0, s1, s2, z1, z2⟩ := H
  refine ⟨p3, by omega, by rw [Int.mul_neg]; omega, p2, ?_, ?_⟩
  · -- t (2 M - t + 1) ≤ M (e + 1)
    have ey : -ys ≤ -y := by
      rcases Int.lt_or_le (-y) (-ys) with x | x
      · have h3 := Int.mul_le_mul_of_nonneg_left (show -y + 1 ≤ -ys by omega) (show 0 ≤ K by omega)
        have h4 := Int.mul_le_mul_of_nonneg_right (show 1 ≤ K by omega) (show 0 ≤ -y by omega)
        rw [Int.mul_add, Int.mul_neg K ys] at h3
        omega
      · exact x
    generalize ht : M - s = t at *
    generalize he : -ys = e at *
    have es : s = M - t := by omega
    have ee : ys = -e := by omega
    subst es ee
    have q : t * (2 * M - t + 1) ≤ M * (e + 1) := by grind
    have te : t ≤ e + 1 := by
      rcases Int.lt_or_le (e + 1) t with x | x
      · have h1 := Int.mul_le_mul (show e + 2 ≤ t by omega) (show M ≤ 2 * M - t + 1 by omega) (by omega) (by omega)
        rw [Int.add_mul] at h1
        have e1 : M * (e + 1) = e * M + M := by grind
        rw [e1] at q
        omega
      · exact x
    rcases Int.lt_or_le (25 * (e + 1)) (49 * t) with x | x
    · exfalso
      have h1 := Int.mul_le_mul_of_nonneg_left (show 49 * M ≤ 25 * (2 * M - t + 1) by omega) (show 0 ≤ t by omega)
      have h2 := Int.mul_lt_mul_of_pos_right x (show 0 < M by omega)
      have e1 : t * (25 * (2 * M - t + 1)) = 25 * (t * (2 * M - t + 1)) := by grind
      have e2 : 25 * (e + 1) * M = 25 * (M * (e + 1)) := by grind
      have e3 : t * (49 * M) = 49 * t * M := by grind
      rw [e1, e3] at h1
      rw [e2] at h2
      omega
    · exact x
  · have e1 : (M + s) * (2 * (-z) - 1) = -(2 * ((M + s) * z)) - (M + s) := by grind
    have e2 : 4 * (M * (-y)) = -(4 * (M * y)) := by grind
    rw [e1, e2]
    omega
/-- growth by at most j -/
theorem grow_j {M t a a' j : Int} (hM : 1 ≤ M) (ht : 0 ≤ t) (h : (2 * M - t) * (2 * a' - 1) ≤ 4 * (M * a)) (ht2 : t ≤ M) (c : t * (2 * a + 2 * j + 1) < 2 * M * (2 * j + 1)) : a' ≤ a + j := by
  rcases Int.lt_or_le (a + j) a' with x | x
  · exfalso
    have h1 := Int.mul_le_mul_of_nonneg_left (show 2 * a + 2 * j + 1 ≤ 2 * a' - 1 by omega) (show 0 ≤ 2 * M - t by omega)
    have e : (2 * M - t) * (2 * a + 2 * j + 1) = 4 * (M * a) + 2 * M * (2 * j + 1) - t * (2 * a + 2 * j + 1) := by grind
    rw [e] at h1
    omega
  · exact x
theorem grow_N {M t a a' N : Int} (hM : 1 ≤ M) (h : (2 * M - t) * (2 * a' - 1) ≤ 4 * (M * a)) (ha : 1 ≤ a') (hN : 1 ≤ N) (c : N * t ≤ 2 * M) : (N - 1) * (2 * a' - 1) ≤ 2 * (N * a) := by
  have h1 := Int.mul_le_mul_of_nonneg_left h (show 0 ≤ N by omega)
  have h2 := Int.mul_le_mul_of_nonneg_right c (show 0 ≤ 2 * a' - 1 by omega)
  have e : N * ((2 * M - t) * (2 * a' - 1)) = 2 * M * (N * (2 * a' - 1)) - N * t * (2 * a' - 1) := by grind
  have e2 : N * (4 * (M * a)) = 2 * M * (2 * (N * a)) := by grind
  rw [e, e2] at h1
  have h3 : 2 * M * ((N - 1) * (2 * a' - 1)) ≤ 2 * M * (2 * (N * a)) := by
    have : 2 * M * ((N - 1) * (2 * a' - 1)) = 2 * M * (N * (2 * a' - 1)) - 2 * M * (2 * a' - 1) := by grind
    omega
  exact Int.le_of_mul_le_mul_left h3 (by omega)
/-- what one halving below M says in whole numbers: a is -y, b is -z -/
structure Gr (M K a b : Int) : Prop where
  ex : ∃ e t : Int, 0 ≤ e ∧ 2 * (K * e) ≤ 2 * a + K ∧ 0 ≤ t ∧ t ≤ M ∧ 49 * t ≤ 25 * (e + 1) ∧ (2 * M - t) * (2 * b - 1) ≤ 4 * (M * a)
  b1 : 1 ≤ b
theorem gr_r1 {M d b : Int} (hd : 1 ≤ d) (hM : 129 * d + 1 ≤ M) (g : Gr M 1 d b) : 128 * b < M := by
  obtain ⟨⟨e, t, e0, e1, t0, tM, t1, h⟩, b1⟩ := g
  rcases Int.lt_or_le d 251 with s | s
  · have : b ≤ d + 0 := by
      refine grow_j (by omega) t0 h tM ?_
      rcases Int.lt_or_le d 126 with s2 | s2
      · have := Int.mul_le_mul_of_nonneg_right (show t ≤ 64 by omega) (show 0 ≤ 2 * d + 2 * 0 + 1 by omega); omega
      · have := Int.mul_le_mul_of_nonneg_right (show t ≤ 128 by omega) (show 0 ≤ 2 * d + 2 * 0 + 1 by omega); omega
    omega
  · have := grow_N (N := 500) (by omega) h b1 (by decide) (by omega)
    omega
theorem gr_r2 {M d b c : Int} (hd : 1 ≤ d) (hM : 65 * d + 1 ≤ M) (g : Gr M 1 d b) (g2 : 32 * b ≤ M → Gr M 2 b c) : 32 * b ≤ M ∧ 64 * c < M := by
  obtain ⟨⟨e, t, e0, e1, t0, tM, t1, h⟩, b1⟩ := g
  rcases Int.lt_or_le d 121 with s | s
  · have hb : b ≤ d + 0 := by
      refine grow_j (by omega) t0 h tM ?_
      rcases Int.lt_or_le d 61 with s2 | s2
      · have := Int.mul_le_mul_of_nonneg_right (show t ≤ 31 by omega) (show 0 ≤ 2 * d + 2 * 0 + 1 by omega); omega
      · have := Int.mul_le_mul_of_nonneg_right (show t ≤ 61 by omega) (show 0 ≤ 2 * d + 2 * 0 + 1 by omega); omega
    obtain ⟨⟨e', t', e0', e1', t0', tM', t1', h'⟩, b1'⟩ := g2 (by omega)
    have : c ≤ b + 0 := by
      refine grow_j (by omega) t0' h' tM' ?_
      rcases Int.lt_or_le d 61 with s2 | s2
      · have := Int.mul_le_mul_of_nonneg_right (show t' ≤ 31 by omega) (show 0 ≤ 2 * b + 2 * 0 + 1 by omega); omega
      · have := Int.mul_le_mul_of_nonneg_right (show t' ≤ 61 by omega) (show 0 ≤ 2 * b + 2 * 0 + 1 by omega); omega
    omega
  · have hb := grow_N (N := 250) (by omega) h b1 (by decide) (by omega)
    obtain ⟨⟨e', t', e0', e1', t0', tM', t1', h'⟩, b1'⟩ := g2 (by omega)
    have hc := grow_N (N := 480) (by omega) h' b1' (by decide) (by omega)
    omega
theorem gr_r3 {M d b c f : Int} (hd : 1 ≤ d) (hM : 33 * d + 1 ≤ M) (g : Gr M 1 d b) (g2 : 32 * b ≤ M → Gr M 2 b c) (g3 : 32 * b ≤ M → 32 * c ≤ M → Gr M 4 c f) : 32 * b ≤ M ∧ 32 * c ≤ M ∧ 32 * f < M := by
  obtain ⟨⟨e, t, e0, e1, t0, tM, t1, h⟩, b1⟩ := g
  rcases Int.lt_or_le d 64 with s | s
  · have hb : b ≤ d + 0 := by
      refine grow_j (by omega) t0 h tM ?_
      rcases Int.lt_or_le d 32 with s2 | s2
      · have := Int.mul_le_mul_of_nonneg_right (show t ≤ 16 by omega) (show 0 ≤ 2 * d + 2 * 0 + 1 by omega); omega
      · have := Int.mul_le_mul_of_nonneg_right (show t ≤ 32 by omega) (show 0 ≤ 2 * d + 2 * 0 + 1 by omega); omega
    obtain ⟨⟨e', t', e0', e1', t0', tM', t1', h'⟩, b1'⟩ := g2 (by omega)
    have hc : c ≤ b + 0 := by
      refine grow_j (by omega) t0' h' tM' ?_
      rcases Int.lt_or_le d 32 with s2 | s2
      · have := Int.mul_le_mul_of_nonneg_right (show t' ≤ 16 by omega) (show 0 ≤ 2 * b + 2 * 0 + 1 by omega); omega
      · have := Int.mul_le_mul_of_nonneg_right (show t' ≤ 32 by omega) (show 0 ≤ 2 * b + 2 * 0 + 1 by omega); omega
    obtain ⟨⟨e'', t'', e0'', e1'', t0'', tM'', t1'', h''⟩, b1''⟩ := g3 (by omega) (by omega)
    have hf : f ≤ c + 0 := by
      refine grow_j (by omega) t0'' h'' tM'' ?_
      rcases Int.lt_or_le d 32 with s2 | s2
      · have := Int.mul_le_mul_of_nonneg_right (show t'' ≤ 16 by omega) (show 0 ≤ 2 * c + 2 * 0 + 1 by omega); omega
      · have := Int.mul_le_mul_of_nonneg_right (show t'' ≤ 32 by omega) (show 0 ≤ 2 * c + 2 * 0 + 1 by omega); omega
    omega
  rcases Int.lt_or_le d 111 with s3 | s3
  · have hb : b ≤ d + 1 := by
      refine grow_j (by omega) t0 h tM ?_
      have := Int.mul_le_mul_of_nonneg_right (show t ≤ 56 by omega) (show 0 ≤ 2 * d + 2 * 1 + 1 by omega); omega
    obtain ⟨⟨e', t', e0', e1', t0', tM', t1', h'⟩, b1'⟩ := g2 (by omega)
    have hc : c ≤ b + 0 := by
      refine grow_j (by omega) t0' h' tM' ?_
      have := Int.mul_le_mul_of_nonneg_right (show t' ≤ 29 by omega) (show 0 ≤ 2 * b + 2 * 0 + 1 by omega); omega
    obtain ⟨⟨e'', t'', e0'', e1'', t0'', tM'', t1'', h''⟩, b1''⟩ := g3 (by omega) (by omega)
    have hf : f ≤ c + 0 := by
      refine grow_j (by omega) t0'' h'' tM'' ?_
      have := Int.mul_le_mul_of_nonneg_right (show t'' ≤ 29 by omega) (show 0 ≤ 2 * c + 2 * 0 + 1 by omega); omega
    omega
  · have hb := grow_N (N := 128) (by omega) h b1 (by decide) (by omega)
    obtain ⟨⟨e', t', e0', e1', t0', tM', t1', h'⟩, b1'⟩ := g2 (by omega)
    have hc := grow_N (N := 248) (by omega) h' b1' (by decide) (by omega)
    obtain ⟨⟨e'', t'', e0'', e1'', t0'', tM'', t1'', h''⟩, b1''⟩ := g3 (by omega) (by omega)
    have hf := grow_N (N := 480) (by omega) h'' b1'' (by decide) (by omega)
    omega
end Lg

namespace Lg
theorem rsn_near {M y : Int} {j : Nat} (hM : 128 ≤ M) (hb : -M ≤ 32 * y) : 1 ≤ M + rsn y j := by
  have r := (divN_facts (a := y) (pw_pos (j : Int).toNat)).1
  rw [← rsn_divN] at r
  have hp := pw_pos (j : Int).toNat
  generalize (2 : Int) ^ (j : Int).toNat = K at *
  rcases Int.lt_or_le (M + rsn y j) 1 with x | x
  · exfalso
    generalize rsn y j = ys at *
    have h1 := Int.mul_le_mul_of_nonneg_left (show ys ≤ -M by omega) (show 0 ≤ K by omega)
    have h2 := Int.mul_le_mul_of_nonneg_right (show 1 ≤ K by omega) (show 0 ≤ M by omega)
    have h3 := Int.mul_le_mul_of_nonneg_left hM (show 0 ≤ K by omega)
    rw [Int.mul_neg] at h1
    omega
  · exact x
theorem step_halving {M y : Int} {j : Nat} (hM : 128 ≤ M) (hb : -M ≤ 32 * y) : Halving M (2 ^ j) y (rsn y j) (sqN (M * (M + rsn y j)) M) (stepY M y j) := by
  have H := halving_of (show 1 ≤ M by omega) (rsn_near (j := j) hM hb)
  have et : ((j : Int).toNat) = j := by omega
  rwa [et] at H
theorem step_gr {M y : Int} {j : Nat} (hM : 128 ≤ M) (hy : y ≤ -1) (hb : -M ≤ 32 * y) : Gr M (2 ^ j) (-y) (-(stepY M y j)) := by
  have H := step_halving (j := j) hM hb
  obtain ⟨z1, e0, e1, s1, t1, h⟩ := H.neg_t hM hy hb
  have s0 := H.s0
  refine ⟨⟨-rsn y j, M - sqN (M * (M + rsn y j)) M, e0, e1, by omega, by omega, t1, ?_⟩, by omega⟩
  have : 2 * M - (M - sqN (M * (M + rsn y j)) M) = M + sqN (M * (M + rsn y j)) M := by omega
  rw [this]; exact h
/-- what the halvings near M keep -/
structure Nr (M x : Int) (j : Nat) : Prop where
  lo : -M ≤ 32 * iterY M (x - M) j
  hi : 32 * iterY M (x - M) j ≤ M
  ke : Keeps M x (iterY M (x - M) j) j (j * (53 / 100))
theorem nr_zero {M x : Int} (hM : 128 ≤ M) (h1 : -M ≤ 32 * (x - M)) (h2 : 32 * (x - M) ≤ M) : Nr M x 0 := by
  refine ⟨h1, h2, ?_⟩
  have := keeps_zero (M := M) (x := x) (by omega)
  have e : ((0 : Nat) : Rat) * (53 / 100) = 0 := by grind
  rw [e]; exact this
theorem nr_succ {M x : Int} {j : Nat} (hM : 128 ≤ M) (n : Nr M x j) (h1 : -M ≤ 32 * iterY M (x - M) (j + 1)) (h2 : 32 * iterY M (x - M) (j + 1) ≤ M) : Nr M x (j + 1) := by
  refine ⟨h1, h2, ?_⟩
  have k := near_keeps hM (step_halving (j := j) hM n.lo) h2 h1 n.ke
  have e : ((j + 1 : Nat) : Rat) * (53 / 100) = (j : Rat) * (53 / 100) + 53 / 100 := by push_cast; grind
  rw [e]; exact k
theorem pos_near {M x : Int} (hM : 128 ≤ M) (hx : M < x) (hd : 32 * (x - M) ≤ M) : ∀ j : Nat, Nr M x j ∧ 1 ≤ iterY M (x - M) j ∧ iterY M (x - M) j ≤ x - M
  | 0 => ⟨nr_zero hM (by omega) hd, by show 1 ≤ x - M; omega, by show x - M ≤ x - M; omega⟩
  | j + 1 => by
    obtain ⟨n, a, b⟩ := pos_near hM hx hd j
    have H := step_halving (j := j) hM n.lo
    have p := (H.poss a).2.2
    have q := H.pos_le a
    have ei : iterY M (x - M) (j + 1) = stepY M (iterY M (x - M) j) j := rfl
    exact ⟨nr_succ hM n (by rw [ei]; omega) (by rw [ei]; omega), by rw [ei]; exact p, by rw [ei]; omega⟩
theorem neg_near {M x : Int} (hM : 128 ≤ M) (hx : x < M) {r : Nat} (hr : r ≤ 3) (hd : 256 * (M - x) < 2 ^ r * (M - (M - x))) :
    (∀ j, j ≤ r → Nr M x j) ∧ -(iterY M (x - M) r) * 256 < M * 2 ^ r ∧ iterY M (x - M) r ≤ -1 := by
  have e0 : iterY M (x - M) 0 = x - M := rfl
  have e1 : iterY M (x - M) 1 = stepY M (iterY M (x - M) 0) (0 : Nat) := rfl
  have e2 : iterY M (x - M) 2 = stepY M (iterY M (x - M) 1) (1 : Nat) := rfl
  have e3 : iterY M (x - M) 3 = stepY M (iterY M (x - M) 2) (2 : Nat) := rfl
  have hr' : r = 0 ∨ r = 1 ∨ r = 2 ∨ r = 3 := by omega
  have n0 : 32 * (M - x) ≤ M → Nr M x 0 := fun h => nr_zero hM (by omega) (by omega)
  have g1 : 32 * (M - x) ≤ M → Gr M 1 (M - x) (-iterY M (x - M) 1) := fun h => by
    have := step_gr (j := 0) hM (show iterY M (x - M) 0 ≤ -1 by omega) (by omega)
    rw [← e1, e0] at this
    have e : -(x - M) = M - x := by omega
    rw [e] at this
    exact this
  have g2 : 1 ≤ -iterY M (x - M) 1 → 32 * (-iterY M (x - M) 1) ≤ M → Gr M 2 (-iterY M (x - M) 1) (-iterY M (x - M) 2) := fun a h => by
    have := step_gr (j := 1) hM (show iterY M (x - M) 1 ≤ -1 by omega) (by omega)
    rw [← e2] at this
    exact this
  have g3 : 1 ≤ -iterY M (x - M) 2 → 32 * (-iterY M (x - M) 2) ≤ M → Gr M 4 (-iterY M (x - M) 2) (-iterY M (x - M) 3) := fun a h => by
    have := step_gr (j := 2) hM (show iterY M (x - M) 2 ≤ -1 by omega) (by omega)
    rw [← e3] at this
    exact this
  rcases hr' with rfl | rfl | rfl | rfl
  · simp only [Int.pow_zero] at hd ⊢
    refine ⟨fun j hj => ?_, by rw [e0]; omega, by rw [e0]; omega⟩
    have : j = 0 := by omega
    subst this
    exact n0 (by omega)
  · have p : (2 : Int) ^ 1 = 2 := rfl
    rw [p] at hd ⊢
    have G := g1 (by omega)
    have b1 := G.b1
    have c := gr_r1 (show 1 ≤ M - x by omega) (by omega) G
    have n1 : Nr M x 1 := nr_succ (j := 0) hM (n0 (by omega)) (show -M ≤ 32 * iterY M (x - M) 1 by omega) (show 32 * iterY M (x - M) 1 ≤ M by omega)
    refine ⟨fun j hj => ?_, by omega, by omega⟩
    have : j = 0 ∨ j = 1 := by omega
    rcases this with rfl | rfl
    · exact n0 (by omega)
    · exact n1
  · have p : (2 : Int) ^ 2 = 4 := rfl
    rw [p] at hd ⊢
    have G := g1 (by omega)
    have b1 := G.b1
    have c := gr_r2 (show 1 ≤ M - x by omega) (by omega) G (g2 b1)
    have c1 := (g2 b1 c.1).b1
    have n1 : Nr M x 1 := nr_succ (j := 0) hM (n0 (by omega)) (show -M ≤ 32 * iterY M (x - M) 1 by omega) (show 32 * iterY M (x - M) 1 ≤ M by omega)
    have n2 : Nr M x 2 := nr_succ (j := 1) hM n1 (show -M ≤ 32 * iterY M (x - M) 2 by omega) (show 32 * iterY M (x - M) 2 ≤ M by omega)
    refine ⟨fun j hj => ?_, by omega, by omega⟩
    have : j = 0 ∨ j = 1 ∨ j = 2 := by omega
    rcases this with rfl | rfl | rfl
    · exact n0 (by omega)
    · exact n1
    · exact n2
  · have p : (2 : Int) ^ 3 = 8 := rfl
    rw [p] at hd ⊢
    have G := g1 (by omega)
    have b1 := G.b1
    have c1' : 32 * (-iterY M (x - M) 1) ≤ M → 1 ≤ -iterY M (x - M) 2 := fun h => (g2 b1 h).b1
    have c := gr_r3 (f := -iterY M (x - M) 3) (show 1 ≤ M - x by omega) (by omega) G (g2 b1) (fun k h => g3 (c1' k) h)
    have c1 := c1' c.1
    have d1 := (g3 c1 c.2.1).b1
    have n1 : Nr M x 1 := nr_succ (j := 0) hM (n0 (by omega)) (show -M ≤ 32 * iterY M (x - M) 1 by omega) (show 32 * iterY M (x - M) 1 ≤ M by omega)
    have n2 : Nr M x 2 := nr_succ (j := 1) hM n1 (show -M ≤ 32 * iterY M (x - M) 2 by omega) (show 32 * iterY M (x - M) 2 ≤ M by omega)
    have n3 : Nr M x 3 := nr_succ (j := 2) hM n2 (show -M ≤ 32 * iterY M (x - M) 3 by omega) (show 32 * iterY M (x - M) 3 ≤ M by omega)
    refine ⟨fun j hj => ?_, by omega, by omega⟩
    have : j = 0 ∨ j = 1 ∨ j = 2 ∨ j = 3 := by omega
    rcases this with rfl | rfl | rfl | rfl
    · exact n0 (by omega)
    · exact n1
    · exact n2
    · exact n3
end Lg

namespace Mine
open Lg
/-- the premise of law 03: x is near M -/
structure NearX (x M : Int) (r : Nat) : Prop where
  sc : Scale M
  hr : r ≤ 3
  lo : 256 * (M - x) < 2 ^ r * (M - (M - x))
  hi : 256 * (x - M) < 2 ^ r * (M - (x - M))
theorem near_8 {M d : Int} {r : Nat} (hr : r ≤ 3) (h : 256 * d < 2 ^ r * (M - d)) (hd : 0 ≤ d) : 256 * d < 8 * (M - d) := by
  have hM : 0 < M - d := by
    rcases Int.lt_or_le 0 (M - d) with x | x
    · exact x
    · exfalso
      have := Int.mul_nonneg (show (0 : Int) ≤ 2 ^ r by have := pw_pos r; omega) (show 0 ≤ -(M - d) by omega)
      rw [Int.mul_neg] at this
      omega
  have p : (2 : Int) ^ r ≤ 8 := by
    have : r = 0 ∨ r = 1 ∨ r = 2 ∨ r = 3 := by omega
    rcases this with rfl | rfl | rfl | rfl <;> decide
  have := Int.mul_le_mul_of_nonneg_right p (show 0 ≤ M - d by omega)
  omega
theorem NearX.b1 {x M : Int} {r : Nat} (h : NearX x M r) : 33 * (x - M) < M ∧ 33 * (M - x) < M := by
  have := h.sc.lo
  constructor
  · rcases Int.lt_or_le 0 (x - M) with c | c
    · have := near_8 h.hr h.hi (by omega); omega
    · omega
  · rcases Int.lt_or_le 0 (M - x) with c | c
    · have := near_8 h.hr h.lo (by omega); omega
    · omega
theorem NearX.pre {x M : Int} {r : Nat} (h : NearX x M r) : Pre x M := by
  have := h.b1
  have := h.sc.lo
  exact ⟨h.sc, by omega, by omega⟩
theorem not_more {x M : Int} {r : Nat} (P : Pre x M) (h : ¬ Again M (iterY M (x - M) r) r) : Rf x M ≤ r := by
  rcases Nat.lt_or_ge r (Rf x M) with a | a
  · exact absurd ((Rf_spec P).2.1 r a) h
  · exact a
def stays (M d : Int) : Bool := decide (stepY M d (0 : Nat) = d) && decide (stepY M d (1 : Nat) = d) && decide (stepY M d (2 : Nat) = d)
theorem stays_all : ∀ M : Nat, M < 128 → ∀ d : Nat, d < 4 → (M ≤ 33 * d || (stays M d && stays M (-d))) = true := by decide +kernel
theorem iter_stays {M d : Int} (h : stays M d = true) : ∀ j, j ≤ 3 → iterY M d j = d
  | 0, _ => rfl
  | j + 1, hj => by
    have ih := iter_stays h j (by omega)
    show stepY M (iterY M d j) j = d
    rw [ih]
    unfold stays at h
    simp only [Bool.and_eq_true, decide_eq_true_eq] at h
    have : j = 0 ∨ j = 1 ∨ j = 2 := by omega
    rcases this with rfl | rfl | rfl
    · exact h.1.1
    · exact h.1.2
    · exact h.2
theorem again_no {M y : Int} {r : Nat} (h1 : y * 256 < M * 2 ^ r) (h2 : -y * 256 < M * 2 ^ r) : ¬ Again M y r := by
  unfold Again; omega
theorem NearX.tests {x M : Int} {r : Nat} (h : NearX x M r) : (x - M) * 256 < M * 2 ^ r ∧ -(x - M) * 256 < M * 2 ^ r := by
  have l := h.lo
  have u := h.hi
  have p := pw_pos r
  have b := h.b1
  generalize (2 : Int) ^ r = K at *
  have := h.sc.lo
  rw [Int.mul_sub K M (x - M)] at u
  rw [Int.mul_sub K M (M - x)] at l
  rw [Int.mul_comm M K]
  have hKM := Int.mul_pos p (show 0 < M by omega)
  constructor
  · rcases Int.lt_or_le 0 (x - M) with c | c
    · have := Int.mul_pos p c; omega
    · omega
  · rcases Int.lt_or_le 0 (M - x) with c | c
    · have := Int.mul_pos p c; omega
    · omega
theorem near_stays {x M : Int} {r : Nat} (h : NearX x M r) (hM : M < 128) : stays M (x - M) = true := by
  have b := h.b1
  have l := h.sc.lo
  rcases Int.le_total 0 (x - M) with c | c
  · have := stays_all M.toNat (by omega) (x - M).toNat (by omega)
    have e1 : ((M.toNat : Nat) : Int) = M := by omega
    have e2 : (((x - M).toNat : Nat) : Int) = x - M := by omega
    rw [e1, e2] at this
    simp only [Bool.or_eq_true, Bool.and_eq_true, decide_eq_true_eq] at this
    rcases this with a | a
    · omega
    · exact a.1
  · have := stays_all M.toNat (by omega) (M - x).toNat (by omega)
    have e1 : ((M.toNat : Nat) : Int) = M := by omega
    have e2 : (((M - x).toNat : Nat) : Int) = M - x := by omega
    rw [e1, e2] at this
    simp only [Bool.or_eq_true, Bool.and_eq_true, decide_eq_true_eq] at this
    rcases this with a | a
    · omega
    · have e : -(M - x) = x - M := by omega
      rw [e] at a
      exact a.2
theorem near_small_rf {x M : Int} {r : Nat} (h : NearX x M r) (hM : M < 128) : Rf x M ≤ r := by
  have it := iter_stays (near_stays h hM)
  refine not_more h.pre ?_
  rw [it r h.hr]
  exact again_no h.tests.1 h.tests.2
theorem near_small {x M : Int} {r : Nat} (h : NearX x M r) (hM : M < 128) : ilog x M = x - M := by
  have l := h.sc.lo
  have it := iter_stays (near_stays h hM)
  have P := h.pre
  have rf := near_small_rf h hM
  have hr := h.hr
  unfold ilog
  have nf := (Rf_spec P).2.2
  rw [it _ (by omega)] at nf ⊢
  exact fin_eq l (TT_pos (by omega)) (rsn_is_zero (M := M) (by omega) (by unfold Again at nf; omega))
theorem far_ok : ∀ R : Nat, R ≤ 3 → ((R : Rat) * (53 / 100) + (1 / 2 + 2 ^ R * (1 / 256) * (763 / 1000) + 2 ^ R * (1 / 256) * (1 / 3 + 1 / 255)) ≤ 515 / 1000 + (R : Rat) * (54 / 100)) := by decide +kernel
theorem near_big_key {x M : Int} {r : Nat} (h : NearX x M r) (hM : 128 ≤ M) : Rf x M ≤ r ∧ Keeps M x (iterY M (x - M) (Rf x M)) (Rf x M) (Rf x M * (53 / 100)) := by
  have P := h.pre
  have b := h.b1
  have hr := h.hr
  have t := h.tests
  rcases Int.lt_trichotomy x M with c | c | c
  · obtain ⟨n, u, g⟩ := neg_near hM c hr h.lo
    have n' := n r (Nat.le_refl _)
    have na : ¬ Again M (iterY M (x - M) r) r := by
      refine again_no ?_ u
      have i := n'.hi
      have p : (1 : Int) ≤ 2 ^ r := by have := pw_pos r; omega
      have := Int.mul_le_mul_of_nonneg_left p (show 0 ≤ M by omega)
      omega
    have rf := not_more P na
    exact ⟨rf, (n _ rf).ke⟩
  · have e : x - M = 0 := by omega
    have na : ¬ Again M (iterY M (x - M) 0) 0 := by
      refine again_no ?_ ?_ <;> (show _ < M * 2 ^ 0; rw [show iterY M (x - M) 0 = x - M from rfl]; omega)
    have rf := not_more P na
    have e0 : Rf x M = 0 := by omega
    rw [e0]
    exact ⟨by omega, (nr_zero hM (by omega) (by omega)).ke⟩
  · have n := pos_near hM c (by omega)
    have na : ¬ Again M (iterY M (x - M) r) r := by
      refine again_no ?_ ?_
      · have := (n r).2.2; omega
      · have := (n r).2.1; have := Int.mul_pos (show 0 < M by omega) (pw_pos r); omega
    have rf := not_more P na
    exact ⟨rf, (n _).1.ke⟩
theorem near_big_rf {x M : Int} {r : Nat} (h : NearX x M r) (hM : 128 ≤ M) : Rf x M ≤ r := (near_big_key h hM).1
theorem near_big {x M : Int} {r : Nat} (h : NearX x M r) (hM : 128 ≤ M) : Good M x (ilog x M) (515 / 1000 + (r : Rat) * (54 / 100)) := by
  have P := h.pre
  have b := h.b1
  have hr := h.hr
  have t := h.tests
  obtain ⟨r1, r2, r3⟩ := Rf_spec P
  have key := near_big_key h hM
  obtain ⟨rf, K⟩ := key
  have yb := y_of_not (show 1 ≤ M by omega) r3
  have h2 := two_pos (Rf x M)
  have e6 : (256 : Rat) * (2 ^ (Rf x M) * (1 / 256)) * (1 / 2 ^ (Rf x M)) = 1 := by grind
  have fb := fin_big (R := Rf x M) (T := TT M) (fin := 1 / 2 + 2 ^ (Rf x M) * (1 / 256) * (763 / 1000) + 2 ^ (Rf x M) * (1 / 256) * (1 / 3 + 1 / 255)) hM (TT_two hM) (TT_rat (by omega)) yb (by grind) (by rw [e6]; grind)
  have fo := far_ok (Rf x M) (by omega)
  have rr : ((Rf x M : Nat) : Rat) ≤ (r : Rat) := by exact_mod_cast rf
  exact combine (by omega) K ⟨fb.1, fb.2.1⟩ (by grind)
theorem base_good {M x : Int} (hM : 1 ≤ M) (h1 : 33 * (x - M) < M) (h2 : 33 * (M - x) < M) (hs : M < 128) : Good M x (x - M) (515 / 1000) := by
  have hm := clt (show (0 : Int) < M by omega)
  push_cast at hm
  have ex : (x : Rat) / M = 1 + ((x - M : Int) : Rat) * (1 / M) := by push_cast; grind
  have hmi := inv_pos hm
  have e1 : (M : Rat) * (1 / M) = 1 := by grind
  unfold Good
  rw [ex]
  constructor
  · have a1 := cle (show 33 * (x - M) ≤ M by omega)
    have a2 := cle (show 33 * (M - x) ≤ M by omega)
    have a3 := cle (show x - M ≤ 3 by omega)
    have a4 := cle (show -3 ≤ x - M by omega)
    push_cast at *
    generalize ht : ((x : Rat) - M) * (1 / M) = t at *
    have tM : t * M = (x : Rat) - M := by grind
    have t1 : t ≤ 1 / 33 := by refine le_of_mul hm ?_; grind
    have t2 : -(1 / 33) ≤ t := by refine le_of_mul hm ?_; grind
    refine (LO.base (t := t) (by grind)).mono ?_ (Rat.le_refl)
    have p : 0 < 1 + t := by grind
    have e2 : (1 + t) * (t / (1 + t)) = t := by grind
    refine le_of_mul p ?_
    rw [e2]
    have e3 : ((x : Rat) - M - 515 / 1000) * (1 / M) = t - 515 / 1000 * (1 / M) := by grind
    rw [e3]
    -- M t² ≤ 0.515 (1 + t)
    refine le_of_mul hm ?_
    have e4 : (M : Rat) * ((1 + t) * (t - 515 / 1000 * (1 / M))) = (1 + t) * (M * t - 515 / 1000 * (M * (1 / M))) := by grind
    rw [e4, e1]
    have m : t * ((x : Rat) - M) ≤ 1 / 11 := by
      have A : Ab t (1 / 33) := ⟨t2, t1⟩
      have B : Ab ((x : Rat) - M) 3 := ⟨by grind, by grind⟩
      have := (A.mul B).2
      grind
    have e5 : (M : Rat) * t = (x : Rat) - M := by grind
    rw [e5]
    clear e5 e4 e3 e2 ex ht tM a1 a2 a3 a4 e1 hmi
    generalize (x : Rat) - M = w at *
    grind
  · refine (UP.base (t := ((x - M : Int) : Rat) * (1 / M))).mono ?_ (Rat.le_refl)
    push_cast at *
    grind
theorem near_good {x M : Int} {r : Nat} (h : NearX x M r) : Good M x (ilog x M) (515 / 1000 + (r : Rat) * (54 / 100)) := by
  rcases Int.lt_or_le M 128 with c | c
  · have b := h.b1
    have g := base_good h.sc.lo b.1 b.2 c
    rw [near_small h c]
    have hm := inv_pos (clt (show (0 : Int) < M by have := h.sc.lo; omega))
    have r0 : (0 : Rat) ≤ (r : Rat) := by exact_mod_cast Nat.zero_le r
    push_cast at hm
    have m := Rat.mul_nonneg r0 (show (0 : Rat) ≤ 1 / M by grind)
    exact ⟨g.1.mono (by grind) Rat.le_refl, g.2.mono (by grind) Rat.le_refl⟩
  · exact near_big h c
end Mine

section
open PySem PySem.W PyProof.Rows
namespace Mine
open Lg
/-- law 03's distance -/
structure Dist (d M r : Int) : Prop where
  sc : Scale M
  r0 : 0 ≤ r
  r3 : r ≤ 3
  d0 : 0 ≤ d
  hi : 256 * d < 2 ^ r.toNat * (M - d)
theorem r_facts {r : Int} (h0 : 0 ≤ r) (h3 : r ≤ 3) : 1 ≤ (2 : Int) ^ r.toNat ∧ (2 : Int) ^ r.toNat ≤ 8 := by
  have : r = 0 ∨ r = 1 ∨ r = 2 ∨ r = 3 := by omega
  rcases this with rfl | rfl | rfl | rfl <;> decide
theorem most_dv {r : Int} (h0 : 0 ≤ r) (h3 : r ≤ 3) : 256 + (2 : Int) ^ r.toNat ≠ 0 ∧ (256 + (2 : Int) ^ r.toNat).natAbs.log2 < 9000 := by
  have := r_facts h0 h3
  refine ⟨by omega, ?_⟩
  have : 257 ≤ 256 + (2 : Int) ^ r.toNat ∧ 256 + (2 : Int) ^ r.toNat ≤ 264 := by omega
  generalize 256 + (2 : Int) ^ r.toNat = b at *
  have h : b.natAbs ≠ 0 := by omega
  have := (Nat.log2_lt (n := b.natAbs) (k := 10) h).mpr (by omega)
  omega
theorem most_nn {M r : Int} (hM : 1 ≤ M) (h0 : 0 ≤ r) (h3 : r ≤ 3) : 0 ≤ (2 ^ r.toNat * M - 1).fdiv (256 + 2 ^ r.toNat) := by
  have f := r_facts h0 h3
  rw [fd (by omega)]
  apply Int.ediv_nonneg
  · have := Int.mul_le_mul f.1 hM (by omega) (by omega); omega
  · omega
theorem dist_of {M r e : Int} (hS : Scale M) (h0 : 0 ≤ r) (h3 : r ≤ 3) : Dist ((2 ^ r.toNat * M - 1).fdiv (256 + 2 ^ r.toNat) - e.fmod ((2 ^ r.toNat * M - 1).fdiv (256 + 2 ^ r.toNat) + 1)) M r := by
  have nn := most_nn hS.lo h0 h3
  have f := r_facts h0 h3
  have q := fdiv_b (a := 2 ^ r.toNat * M - 1) (b := 256 + 2 ^ r.toNat) (by omega)
  generalize (2 ^ r.toNat * M - 1).fdiv (256 + 2 ^ r.toNat) = m at *
  have a := Int.fmod_nonneg_of_pos e (b := m + 1) (by omega)
  have b := Int.fmod_lt_of_pos e (b := m + 1) (by omega)
  refine ⟨hS, h0, h3, by omega, ?_⟩
  generalize e.fmod (m + 1) = k at *
  generalize (2 : Int) ^ r.toNat = K at *
  have h1 := Int.mul_le_mul_of_nonneg_left (show m - k ≤ m by omega) (show 0 ≤ 256 + K by omega)
  rw [Int.add_mul] at h1
  rw [Int.mul_sub K M]
  omega
theorem Dist.np {d M r : Int} (D : Dist d M r) : NearX (M + d) M r.toNat := by
  have := D.r3
  have h := D.hi
  have d0 := D.d0
  refine ⟨D.sc, by have := D.r0; omega, ?_, ?_⟩
  · have p := pw_pos r.toNat
    have h8 := near_8 (by have := D.r0; omega) h d0
    have e : M - (M + d) = -d := by omega
    rw [e]
    have := Int.mul_nonneg (show (0 : Int) ≤ 2 ^ r.toNat by omega) (show 0 ≤ M - -d by omega)
    rcases Int.lt_or_le 0 d with x | x
    · omega
    · have : d = 0 := by omega
      subst this
      have := Int.mul_pos p (show 0 < M - -0 by have := D.sc.lo; omega)
      omega
  · have e : M + d - M = d := by omega
    rw [e]; exact h
theorem Dist.nm {d M r : Int} (D : Dist d M r) : NearX (M - d) M r.toNat := by
  have := D.r3
  have h := D.hi
  have d0 := D.d0
  refine ⟨D.sc, by have := D.r0; omega, ?_, ?_⟩
  · have e : M - (M - d) = d := by omega
    rw [e]; exact h
  · have p := pw_pos r.toNat
    have h8 := near_8 (by have := D.r0; omega) h d0
    have e : M - d - M = -d := by omega
    rw [e]
    have := Int.mul_pos p (show 0 < M - -d by have := D.sc.lo; omega)
    omega
theorem Dist.pp {d M r : Int} (D : Dist d M r) : Pre (M + d) M := D.np.pre
theorem Dist.pm {d M r : Int} (D : Dist d M r) : Pre (M - d) M := D.nm.pre
theorem near_ints {x M r : Int} (h0 : 0 ≤ r) (h : NearX x M r.toNat) :
    LO (((1000 * ilog x M - (515 + 540 * r) : Int) : Rat) * (1 / ((1000 * M : Int) : Rat))) ((x : Rat) / M) ∧ UP (((1000 * ilog x M + (515 + 540 * r) : Int) : Rat) * (1 / ((1000 * M : Int) : Rat))) ((x : Rat) / M) := by
  have g := near_good h
  have hm := clt (show (0 : Int) < M by have := h.sc.lo; omega)
  have er : ((r.toNat : Nat) : Rat) = (r : Rat) := by
    obtain ⟨n, rfl⟩ : ∃ n : Nat, r = n := ⟨r.toNat, by omega⟩
    rw [Int.toNat_natCast]; norm_cast
  rw [er] at g
  push_cast at hm
  have e1 : (1 : Rat) / ((1000 : Rat) * M) = (1 / M) * (1 / 1000) := by grind
  constructor
  · refine g.1.mono ?_ Rat.le_refl
    push_cast
    rw [e1]
    grind
  · refine g.2.mono ?_ Rat.le_refl
    push_cast
    rw [e1]
    grind
theorem near_end_p {x M r power low k : Int} (h0 : 0 ≤ r) (h : NearX x M r.toNat) (L : LL x M (M * 10 ^ Int.toNat 20) power low k) (hp : ¬ 0 < power) :
    (1000 * ilog x M - (515 + 540 * r)) * 10 ^ Int.toNat 20 ≤ 1000 * (2 * low + 4 * k + 4) ∧ 1000 * (2 * low) ≤ (1000 * ilog x M + (515 + 540 * r)) * 10 ^ Int.toNat 20 := by
  have hM := h.sc.lo
  have g := near_ints h0 h
  have hu := L.lp.hu
  have p20 : (0 : Int) < 10 ^ Int.toNat 20 := by decide +kernel
  generalize (10 : Int) ^ Int.toNat 20 = D at *
  constructor
  · have a := g.1.le (ll_UP L hp)
    have c := cross (by omega) hu a
    generalize 1000 * ilog x M - (515 + 540 * r) = v at *
    have e : v * (M * D) = M * (v * D) := by grind
    have e2 : (2 * low + 4 * k + 4) * (1000 * M) = M * (1000 * (2 * low + 4 * k + 4)) := by grind
    rw [e, e2] at c
    exact Int.le_of_mul_le_mul_left c (by omega)
  · have a := (ll_LO L).le g.2
    have c := cross' (by omega) hu a
    generalize 1000 * ilog x M + (515 + 540 * r) = v at *
    have e : v * (M * D) = M * (v * D) := by grind
    have e2 : 2 * low * (1000 * M) = M * (1000 * (2 * low)) := by grind
    rw [e, e2] at c
    exact Int.le_of_mul_le_mul_left c (by omega)
theorem near_end_m {x M r power low k : Int} (h0 : 0 ≤ r) (h : NearX x M r.toNat) (L : LL M x (M * 10 ^ Int.toNat 20) power low k) (hp : ¬ 0 < power) :
    (1000 * ilog x M - (515 + 540 * r)) * 10 ^ Int.toNat 20 ≤ -(1000 * (2 * low)) ∧ -(1000 * (2 * low + 4 * k + 4)) ≤ (1000 * ilog x M + (515 + 540 * r)) * 10 ^ Int.toNat 20 := by
  have hM := h.sc.lo
  have hx0 : 0 < x := by have := h.pre.lo; omega
  have g := near_ints h0 h
  have hu := L.lp.hu
  have hmr := clt (show (0 : Int) < M by omega)
  have hxr := clt hx0
  have hq : (0 : Rat) < (M : Rat) / x := by
    have := Rat.mul_pos hmr (inv_pos hxr); push_cast at *; grind
  have e : (1 : Rat) / ((M : Rat) / x) = (x : Rat) / M := by push_cast at *; grind
  have lo := (ll_UP L hp).inv hq
  have up := (ll_LO L).inv hq
  rw [e] at lo up
  have p20 : (0 : Int) < 10 ^ Int.toNat 20 := by decide +kernel
  generalize (10 : Int) ^ Int.toNat 20 = D at *
  constructor
  · have a := g.1.le up
    have c := cross (a := 1000 * ilog x M - (515 + 540 * r)) (b := 1000 * M) (c := -(2 * low)) (by omega) hu (by push_cast at a ⊢; grind)
    generalize 1000 * ilog x M - (515 + 540 * r) = v at *
    have e : v * (M * D) = M * (v * D) := by grind
    have e2 : -(2 * low) * (1000 * M) = M * (-(1000 * (2 * low))) := by grind
    rw [e, e2] at c
    exact Int.le_of_mul_le_mul_left c (by omega)
  · have a := lo.le g.2
    have c := cross' (a := 1000 * ilog x M + (515 + 540 * r)) (b := 1000 * M) (c := -(2 * low + 4 * k + 4)) (by omega) hu (by push_cast at a ⊢; grind)
    generalize 1000 * ilog x M + (515 + 540 * r) = v at *
    have e : v * (M * D) = M * (v * D) := by grind
    have e2 : -(2 * low + 4 * k + 4) * (1000 * M) = M * (-(1000 * (2 * low + 4 * k + 4))) := by grind
    rw [e, e2] at c
    exact Int.le_of_mul_le_mul_left c (by omega)
theorem low3 {t c r D : Int} (hD : 0 < D) (h : 1000 * c ≤ (1000 * t + (515 + 540 * r)) * D) : ¬ 100 * D * t ≤ 100 * c - (52 + 54 * r) * D := by
  intro g
  have e1 : (1000 * t + (515 + 540 * r)) * D = 10 * (100 * D * t) + 515 * D + 540 * (r * D) := by grind
  have e2 : (52 + 54 * r) * D = 52 * D + 54 * (r * D) := by grind
  rw [e1] at h
  rw [e2] at g
  omega
theorem high3 {t c r D : Int} (hD : 0 < D) (h : (1000 * t - (515 + 540 * r)) * D ≤ 1000 * c) : ¬ 100 * c + (52 + 54 * r) * D ≤ 100 * D * t := by
  intro g
  have e1 : (1000 * t - (515 + 540 * r)) * D = 10 * (100 * D * t) - 515 * D - 540 * (r * D) := by grind
  have e2 : (52 + 54 * r) * D = 52 * D + 54 * (r * D) := by grind
  rw [e1] at h
  rw [e2] at g
  omega
section
variable {prog : Program} {w : World} {A : Around} {E : Value → Shared → Prop} {s : Shared} {t u : Tok} {Q : Value → Shared → Prop}
theorem d_mod {e M r : Int} (hS : Scale M) (h0 : 0 ≤ r) (h3 : r ≤ 3) (h : Q (.int (e.fmod ((2 ^ r.toNat * M - 1).fdiv (256 + 2 ^ r.toNat) + 1)) s.toks) { s with toks := s.toks + 1 }) :
    wpAny (model prog w) A (binaryOp .Mod (.int e t) (.int ((2 ^ r.toNat * M - 1).fdiv (256 + 2 ^ r.toNat) + 1) u)) Q E s := by
  refine mod_int' ?_ h
  have := most_nn hS.lo h0 h3
  omega
theorem d_sub {e M r : Int} (hS : Scale M) (h0 : 0 ≤ r) (h3 : r ≤ 3) (h : ∀ d : Int, Dist d M r → Q (.int d s.toks) { s with toks := s.toks + 1 }) :
    wpAny (model prog w) A (binaryOp .Sub (.int ((2 ^ r.toNat * M - 1).fdiv (256 + 2 ^ r.toNat)) t) (.int (e.fmod ((2 ^ r.toNat * M - 1).fdiv (256 + 2 ^ r.toNat) + 1)) u)) Q E s :=
  PyProof.Rows.sub_int (h _ (dist_of hS h0 h3))
end
end Mine
namespace Mine
theorem lp3 {d M r : Int} (D : Dist d M r) : LP (M + d) M (M * 10 ^ Int.toNat 20) := lp_pos D.pp (by have := D.d0; omega)
theorem lp3m {d M r : Int} (D : Dist d M r) : LP M (M - d) (M * 10 ^ Int.toNat 20) := by
  have p := D.pm
  have := D.d0
  rcases Int.lt_or_le (M - d) M with x | x
  · exact lp_neg p (by omega)
  · have e : d = 0 := by omega
    subst e
    have e2 : M - 0 = M := by omega
    rw [e2] at p ⊢
    exact lp_pos p (by omega)
end Mine
namespace Mine
theorem range4 {h : Heap} {r : Addr} {a : Int} {t u v : Tok} (H : IsRange h r a 4 1 t u v) : ∃ b : Int, b = 4 ∧ IsRange h r a b 1 t u v := ⟨4, rfl, H⟩
end Mine
namespace Mine
section
variable {prog : Program} {w : World} {A : Around} {E : Value → Shared → Prop} {s : Shared} {t u : Tok} {Q : Value → Shared → Prop}
theorem most_div {e r : Int} (h0 : 0 ≤ r) (h3 : r ≤ 3) (h : Q (.int (e.fdiv (256 + 2 ^ r.toNat)) s.toks) { s with toks := s.toks + 1 }) :
    wpAny (model prog w) A (binaryOp .FloorDiv (.int e t) (.int (256 + 2 ^ r.toNat) u)) Q E s :=
  floordiv_int (most_dv h0 h3).1 h (Or.inl (PyProof.noPylong_of_log2 (most_dv h0 h3).2))
end
end Mine

end
section
open PySem PySem.W PyProof.Rows
namespace Mine
section
variable {prog : Program} {w : World} {A : Around} {E : Value → Shared → Prop} {s : Shared} {env : Env} {h₀ : Heap} {x : Str} {body : List Stmt} {Q : Flow → Shared → Prop}
/-- a loop over a made pair of ints that stores nothing but forgotten names -/
theorem tup_search {D : Addr} {a b : Int} {ta tb : Tok} {c : Nat} {rest : List (Addr × Obj)} {m₀ : Str → Option Value} (stored : List Str)
    (hh : A.handled = none) (F : Fr h₀ env.locals s.heap m₀) (N : News h₀ env.locals s.heap ((D, ({ cls := .type "tuple", data := .seq #[.int a ta, .int b tb] c } : Obj)) :: rest)) (hne : ∀ p ∈ rest, p.1 ≠ D)
    (turn : ∀ (k : Int) t (u : Str → Option Value) h tk own, (k = a ∨ k = b) → OwnOff own (rest.map (·.1)) →
      Fr h₀ env.locals h (fun y => if y = x then some (.int k t) else kstB (fun z => if stored.contains z then u z else m₀ z) [] y) → News h₀ env.locals h (rest ++ own) →
      wpAny (model prog w) A (execs body env) (InvPostN h₀ env.locals (KstS (fun _ : Unit => rest) (fun _ => []) (fun _ => True) x stored m₀ (fun _ _ => True) [k]) own (rest.map (·.1)) { s with heap := h, toks := tk } Q) E { s with heap := h, toks := tk })
    (done : ∀ (u : Str → Option Value) h tk, Fr h₀ env.locals h (fun y => if y = x then u y else kstB (fun z => if stored.contains z then u z else m₀ z) [] y) → News h₀ env.locals h rest → Q .next { s with heap := h, toks := tk }) :
    wpAny (model prog w) A (pyIter (.ref D)) (fun it s₂ => LoopAtV prog w A h₀ env x body Q E it s₂) E s := by
  have hD := N _ (.head _)
  have ht : s.heap.IsTuple D #[.int a ta, .int b tb] := ⟨_, hD.1, rfl, c, rfl⟩
  have hlt := Heap.lt_size hD.1
  have hneD : D ≠ s.heap.objs.size := Nat.ne_of_lt hlt
  refine wpAny_pyIter_tuple ht ?_
  have W := Walks.tuple (prog := prog) (w := w) hh s.heap.objs.size D hneD #[.int a ta, .int b tb]
  refine loop_invN (news := rest) (fun _ m nx => KstS (fun _ : Unit => rest) (fun _ => []) (fun _ => True) x stored m₀ (fun _ _ => True) [] m nx) W ?_ ?_ ?_ ?_
    ⟨⟨_, Heap.get?_push_size _ rfl, rfl, rfl⟩, ht.at fun o e => Heap.get?_push_of_some _ e⟩ (F.push _) (fun p hp => ⟨Heap.get?_push_of_some _ (N p (.tail _ hp)).1, (N p (.tail _ hp)).2⟩) ⟨(), rfl, trivial, (fun _ h => (nomatch h)), (fun _ _ _ _ => rfl), trivial⟩ ?_ ?_
  · intro hm
    rcases List.mem_cons.mp hm with e | hm
    · exact absurd F.ns.lt (e ▸ Nat.lt_irrefl _)
    · exact hD.2.1 (List.mem_singleton.mp hm).symm
  · intro b hb
    rw [List.mem_singleton.mp hb]
    exact next_is_new F
  · intro p hp hI
    exact absurd (Heap.lt_size (N p (.tail _ hp)).1) ((List.mem_singleton.mp hI) ▸ Nat.lt_irrefl _)
  · intro p hp hI
    rcases List.mem_cons.mp hI with e | hI
    · exact absurd (Heap.lt_size (N p (.tail _ hp)).1) (e ▸ Nat.lt_irrefl _)
    · exact hne p hp (List.mem_singleton.mp hI)
  · rintro i v m₁ nx h tk own hi hP _ hoff ⟨_, hnx, _, h1, h2, _⟩ F₁ N₁
    have hnx' : nx = rest := hnx
    rw [hnx'] at N₁
    have hv : (∃ t, v = .int a t) ∨ ∃ t, v = .int b t := by
      have hi' : i < 2 := hi
      have : i = 0 ∨ i = 1 := by omega
      rcases this with rfl | rfl
      · left
        exact ⟨ta, by simpa using hP.symm⟩
      · right
        exact ⟨tb, by simpa using hP.symm⟩
    have T : ∀ (k : Int) (t : Tok), v = .int k t → (k = a ∨ k = b) → wpAny (model prog w) A (execs body env) (InvPostN h₀ env.locals (KstS (fun _ : Unit => rest) (fun _ => []) (fun _ => True) x stored m₀ (fun _ _ => True) []) own (rest.map (·.1)) { s with heap := h, toks := tk } Q) E { s with heap := h, toks := tk } := by
      rintro k t rfl hk
      exact turn k t m₁ h tk own hk hoff (kst_fr (ps := []) h1 h2 F₁) N₁
    rcases hv with ⟨t, e⟩ | ⟨t, e⟩
    · exact T a t e (Or.inl rfl)
    · exact T b t e (Or.inr rfl)
  · rintro m₁ nx h tk ⟨_, hnx, _, h1, h2, _⟩ F₁ N₁
    have hnx' : nx = rest := hnx
    rw [hnx'] at N₁
    exact done m₁ h tk (kst_frOut (ps := []) h1 h2 F₁) N₁
end
end Mine
namespace Mine
open Lg
theorem NearX.rf {x M : Int} {r : Nat} (h : NearX x M r) : Rf x M ≤ r := by
  have P := h.pre
  rcases Int.lt_or_le M 128 with c | c
  · exact near_small_rf h c
  · exact near_big_rf h c
theorem wi_lt3 {x M y R : Int} {r : Nat} (n : NearX x M r) (h : WI x M y R) (g : Again M y R.toNat) : R + 1 ≤ 3 := by
  have rf := n.rf
  have r3 := n.hr
  have na := (Rf_spec h.pre).2.2
  rcases Nat.lt_or_ge R.toNat (Rf x M) with a | a
  · have := h.r0; omega
  · exfalso
    rcases Nat.lt_or_ge (Rf x M) R.toNat with b | b
    · exact na (h.ag _ b)
    · have e : R.toNat = Rf x M := by omega
      have ye := h.ye
      rw [e] at g ye
      rw [ye] at g
      exact na g
theorem wi_start3 {x M : Int} {r : Nat} (n : NearX x M r) : WI x M (x - M) 0 ∧ 0 ≤ (0 : Int) ∧ (0 : Int) ≤ 3 := ⟨(wi_start n.pre).1, by decide, by decide⟩
theorem wi_up3 {x M y R : Int} {r : Nat} (n : NearX x M r) (h : WI x M y R) (g : Again M y R.toNat) : WI x M (divN (M * y * 2 ^ Int.toNat 1) (M + sqN (M * (M + rsn y R)) M)) (R + 1) ∧ 0 ≤ R + 1 ∧ R + 1 ≤ 3 :=
  ⟨(wi_up' h g).1, by have := h.r0; omega, wi_lt3 n h g⟩
theorem fin3_lp {x t M r power low k : Int} (ht : t = ilog x M) (h0 : 0 ≤ r) (n : NearX x M r.toNat) (L : LL x M (M * 10 ^ Int.toNat 20) power low k) (hp : ¬ 0 < power)
    (g : 100 * 10 ^ Int.toNat 20 * t ≤ 100 * (2 * low) - (52 + 54 * r) * 10 ^ Int.toNat 20) : False := by
  subst ht; exact low3 (by decide +kernel) (near_end_p h0 n L hp).2 g
theorem fin3_hp {x t M r power low k : Int} (ht : t = ilog x M) (h0 : 0 ≤ r) (n : NearX x M r.toNat) (L : LL x M (M * 10 ^ Int.toNat 20) power low k) (hp : ¬ 0 < power)
    (g : 100 * (2 * low + 4 * k + 4) + (52 + 54 * r) * 10 ^ Int.toNat 20 ≤ 100 * 10 ^ Int.toNat 20 * t) : False := by
  subst ht; exact high3 (by decide +kernel) (near_end_p h0 n L hp).1 g
theorem fin3_lm {x t M r power low k : Int} (ht : t = ilog x M) (h0 : 0 ≤ r) (n : NearX x M r.toNat) (L : LL M x (M * 10 ^ Int.toNat 20) power low k) (hp : ¬ 0 < power)
    (g : 100 * 10 ^ Int.toNat 20 * (-t) ≤ 100 * (2 * low) - (52 + 54 * r) * 10 ^ Int.toNat 20) : False := by
  subst ht
  refine low3 (by decide +kernel) ?_ g
  have := (near_end_m h0 n L hp).1
  generalize (10 : Int) ^ Int.toNat 20 = D at *
  have e : (1000 * -ilog x M + (515 + 540 * r)) * D = -((1000 * ilog x M - (515 + 540 * r)) * D) := by grind
  rw [e]
  omega
theorem fin3_hm {x t M r power low k : Int} (ht : t = ilog x M) (h0 : 0 ≤ r) (n : NearX x M r.toNat) (L : LL M x (M * 10 ^ Int.toNat 20) power low k) (hp : ¬ 0 < power)
    (g : 100 * (2 * low + 4 * k + 4) + (52 + 54 * r) * 10 ^ Int.toNat 20 ≤ 100 * 10 ^ Int.toNat 20 * (-t)) : False := by
  subst ht
  refine high3 (by decide +kernel) ?_ g
  have := (near_end_m h0 n L hp).2
  generalize (10 : Int) ^ Int.toNat 20 = D at *
  have e : (1000 * -ilog x M - (515 + 540 * r)) * D = -((1000 * ilog x M + (515 + 540 * r)) * D) := by grind
  rw [e]
  omega
end Mine
namespace Mine
open Lg
section
variable {prog : Program} {w : World} {A : Around} {E : Value → Shared → Prop} {s : Shared} {t u : Tok} {Q : Value → Shared → Prop} {h₀ : Heap} {L : Addr} {m : Str → Option Value} {news : List (Addr × Obj)} {d M r : Int}
theorem max_p (D : Dist d M r) (hh : A.handled = none) (F : Fr h₀ L s.heap m) (N : News h₀ L s.heap news) (h : ∀ t' h' tk, Fr h₀ L h' m → News h₀ L h' news → Q (.int (M + d) t') { s with heap := h', toks := tk }) :
    wpAny (model prog w) A (call (.builtin "max") [.int (M + d) t, .int M u]) Q E s :=
  max_two_N hh F N fun h' tk F' N' => by
    have := D.d0
    have e : (if M > M + d then M else M + d) = M + d := if_neg (by omega)
    rw [e]; exact h _ _ _ F' N'
theorem max_m (D : Dist d M r) (hh : A.handled = none) (F : Fr h₀ L s.heap m) (N : News h₀ L s.heap news) (h : ∀ t' h' tk, Fr h₀ L h' m → News h₀ L h' news → Q (.int M t') { s with heap := h', toks := tk }) :
    wpAny (model prog w) A (call (.builtin "max") [.int (M - d) t, .int M u]) Q E s :=
  max_two_N hh F N fun h' tk F' N' => by
    have := D.d0
    have e : (if M > M - d then M else M - d) = M := by split <;> omega
    rw [e]; exact h _ _ _ F' N'
theorem min_p (D : Dist d M r) (hh : A.handled = none) (F : Fr h₀ L s.heap m) (N : News h₀ L s.heap news) (h : ∀ t' h' tk, Fr h₀ L h' m → News h₀ L h' news → Q (.int M t') { s with heap := h', toks := tk }) :
    wpAny (model prog w) A (call (.builtin "min") [.int (M + d) t, .int M u]) Q E s :=
  min_two_N hh F N fun h' tk F' N' => by
    have := D.d0
    have e : (if M < M + d then M else M + d) = M := by split <;> omega
    rw [e]; exact h _ _ _ F' N'
theorem min_m (D : Dist d M r) (hh : A.handled = none) (F : Fr h₀ L s.heap m) (N : News h₀ L s.heap news) (h : ∀ t' h' tk, Fr h₀ L h' m → News h₀ L h' news → Q (.int (M - d) t') { s with heap := h', toks := tk }) :
    wpAny (model prog w) A (call (.builtin "min") [.int (M - d) t, .int M u]) Q E s :=
  min_two_N hh F N fun h' tk F' N' => by
    have := D.d0
    have e : (if M < M - d then M else M - d) = M - d := if_neg (by omega)
    rw [e]; exact h _ _ _ F' N'
end
theorem f3_lp {d t M r power low k : Int} (ht : t = ilog (M + d) M) (D : Dist d M r) (L : LL (M + d) M (M * 10 ^ Int.toNat 20) power low k) (hp : ¬ 0 < power)
    (g : 100 * 10 ^ Int.toNat 20 * t ≤ 100 * (2 * low) - (52 + 54 * r) * 10 ^ Int.toNat 20) : False := fin3_lp ht D.r0 D.np L hp g
theorem f3_hp {d t M r power low k : Int} (ht : t = ilog (M + d) M) (D : Dist d M r) (L : LL (M + d) M (M * 10 ^ Int.toNat 20) power low k) (hp : ¬ 0 < power)
    (g : 100 * (2 * low + 4 * k + 4) + (52 + 54 * r) * 10 ^ Int.toNat 20 ≤ 100 * 10 ^ Int.toNat 20 * t) : False := fin3_hp ht D.r0 D.np L hp g
theorem f3_lm {d t M r power low k : Int} (ht : t = ilog (M - d) M) (D : Dist d M r) (L : LL M (M - d) (M * 10 ^ Int.toNat 20) power low k) (hp : ¬ 0 < power)
    (g : 100 * 10 ^ Int.toNat 20 * (-t) ≤ 100 * (2 * low) - (52 + 54 * r) * 10 ^ Int.toNat 20) : False := fin3_lm ht D.r0 D.nm L hp g
theorem f3_hm {d t M r power low k : Int} (ht : t = ilog (M - d) M) (D : Dist d M r) (L : LL M (M - d) (M * 10 ^ Int.toNat 20) power low k) (hp : ¬ 0 < power)
    (g : 100 * (2 * low + 4 * k + 4) + (52 + 54 * r) * 10 ^ Int.toNat 20 ≤ 100 * 10 ^ Int.toNat 20 * (-t)) : False := fin3_hm ht D.r0 D.nm L hp g
theorem f3_lz {d t M r power low k : Int} (ht : t = ilog (M - d) M) (D : Dist d M r) (L : LL M (M - d) (M * 10 ^ Int.toNat 20) power low k) (hp : ¬ 0 < power) (hx : M ≤ M - d)
    (g : 100 * 10 ^ Int.toNat 20 * t ≤ 100 * (2 * low) - (52 + 54 * r) * 10 ^ Int.toNat 20) : False := by
  have d0 := D.d0
  have e : M - d = M := by omega
  have n := D.nm
  rw [e] at ht L n
  exact fin3_lp ht D.r0 n L hp g
theorem f3_hz {d t M r power low k : Int} (ht : t = ilog (M - d) M) (D : Dist d M r) (L : LL M (M - d) (M * 10 ^ Int.toNat 20) power low k) (hp : ¬ 0 < power) (hx : M ≤ M - d)
    (g : 100 * (2 * low + 4 * k + 4) + (52 + 54 * r) * 10 ^ Int.toNat 20 ≤ 100 * 10 ^ Int.toNat 20 * t) : False := by
  have d0 := D.d0
  have e : M - d = M := by omega
  have n := D.nm
  rw [e] at ht L n
  exact fin3_hp ht D.r0 n L hp g
theorem bits_neg3 {a : Int} {m : Nat} (h : Builtin.Int.intBits a ≤ m) : Builtin.Int.intBits (-a) ≤ m := by
  rw [PySem.intBits_le_iff] at *
  omega
theorem bits_d {d M r : Int} (D : Dist d M r) : Builtin.Int.intBits d ≤ 700 := by
  have h1 := bits_scale D.sc
  have b := D.np.b1
  have d0 := D.d0
  rw [PySem.intBits_le_iff] at *
  have := D.sc.lo
  omega
end Mine
namespace Mine
theorem same3 {z : Str} {u m₀ : Str → Option Value} {a b c d e : Option Value} (h1 : z ≠ Str.ofString "x") (h3 : [Str.ofString "told", Str.ofString "low", Str.ofString "high"].contains z = false) :
    (if z = Str.ofString "told" then a else if z = Str.ofString "high" then b else if z = Str.ofString "low" then c else if z = Str.ofString "told" then d else if z = Str.ofString "x" then e else if [Str.ofString "told", Str.ofString "low", Str.ofString "high"].contains z = true then u z else m₀ z) = m₀ z := by
  have h := h3
  simp only [List.contains_cons, List.contains_nil, Bool.or_false, Bool.or_eq_false_iff, beq_eq_false_iff_ne, ne_eq] at h
  rw [if_neg h.1, if_neg h.2.2, if_neg h.2.1, if_neg h.1, if_neg h1, h3]
  rfl
section
variable {h₀ : Heap} {x : Str}
theorem end3 {L : Addr} {m' m₀ : Str → Option Value} {t1 t2 t3 : Addr × Obj} {rest own : List (Addr × Obj)} {stored : List Str} {pre : List Int} {s₁ : Shared} {h' : Heap} {tk : Nat}
    (F : Fr h₀ L h' m') (N : News h₀ L h' (t1 :: t2 :: t3 :: (rest ++ own))) (hr : ∀ z, z ≠ x → stored.contains z = false → m' z = m₀ z) :
    InvEndN h₀ L (KstS (fun _ : Unit => rest) (fun _ => []) (fun _ => True) x stored m₀ (fun _ _ => True) pre) own (rest.map (·.1)) s₁ { s₁ with heap := h', toks := tk } :=
  kst_end () F N (fun p hp => .tail _ (.tail _ (.tail _ (List.mem_append_left _ hp)))) (fun p hp => .tail _ (.tail _ (.tail _ (List.mem_append_right _ hp)))) rfl trivial (List.forall_mem_nil _) (fun z h1 _ h3 => hr z h1 h3) trivial
end
end Mine

end
section
open PySem PySem.W PyProof.Rows
namespace Mine
open Lg
theorem ilog_abs {x M : Int} (P : Pre x M) : -(9 * M + 22) ≤ ilog x M ∧ ilog x M ≤ 9 * M + 22 := by
  have hM := P.sc.lo
  have hm := clt (show (0 : Int) < M by omega)
  have hx0 : 0 < x := by have := P.lo; omega
  have hx := clt hx0
  have h1 := cle P.lo
  have h2 := cle P.hi
  obtain ⟨lo, up⟩ := (ilog_good P).1
  have hf : (if M ≤ x then (15 : Rat) else 22) ≤ 22 := by split <;> grind
  generalize (if M ≤ x then (15 : Rat) else 22) = far at *
  generalize ilog x M = t at *
  push_cast at *
  have hmi := inv_pos hm
  have hxi := inv_pos hx
  have e0 : (1 : Rat) + ((x : Rat) / M - 1) = (x : Rat) / M := by grind
  constructor
  · have b : LO (((x : Rat) / M - 1) / (1 + ((x : Rat) / M - 1))) (1 + ((x : Rat) / M - 1)) := LO.base (by
      have := Rat.mul_pos hx hmi
      grind)
    rw [e0] at b
    have c := b.le up
    have e1 : ((x : Rat) / M - 1) / ((x : Rat) / M) = 1 - (M : Rat) / x := by grind
    rw [e1] at c
    have c2 : (M : Rat) / x ≤ 10 := by
      have := Rat.mul_le_mul_of_nonneg_right h1 (show (0 : Rat) ≤ 1 / x by grind)
      grind
    have c3 : (-9 : Rat) ≤ ((t : Rat) + far) * (1 / M) := by grind
    have c4 := Rat.mul_le_mul_of_nonneg_right c3 (show (0 : Rat) ≤ M by grind)
    have c5 : ((t : Rat) + far) * (1 / M) * M = t + far := by grind
    rw [c5] at c4
    have : ((-(9 * M + 22) : Int) : Rat) ≤ (t : Rat) := by push_cast; grind
    exact Rat.intCast_le_intCast.mp this
  · have b : UP ((x : Rat) / M - 1) (1 + ((x : Rat) / M - 1)) := UP.base
    rw [e0] at b
    have c := lo.le b
    have c2 : (x : Rat) / M ≤ 10 := by
      have := Rat.mul_le_mul_of_nonneg_right h2 (show (0 : Rat) ≤ 1 / M by grind)
      grind
    have c3 : ((t : Rat) - far) * (1 / M) ≤ 9 := by grind
    have c4 := Rat.mul_le_mul_of_nonneg_right c3 (show (0 : Rat) ≤ M by grind)
    have c5 : ((t : Rat) - far) * (1 / M) * M = t - far := by grind
    rw [c5] at c4
    have : (t : Rat) ≤ ((9 * M + 22 : Int) : Rat) := by push_cast; grind
    exact Rat.intCast_le_intCast.mp this
theorem bits_ilog {x M : Int} (P : Pre x M) : Builtin.Int.intBits (ilog x M) ≤ 710 := by
  have h := ilog_abs P
  have b := bits_scale P.sc
  have := P.sc.lo
  rw [PySem.intBits_le_iff] at *
  have e : (2 : Nat) ^ 710 = 1024 * 2 ^ 700 := by rw [← Nat.pow_add (m := 10) (n := 700) (a := 2)]
  rw [e]
  generalize (2 : Nat) ^ 700 = C at *
  omega
end Mine

end
namespace Mine
section
open PySem PySem.W PyProof.Rows
set_option maxRecDepth 100000 in
set_option maxHeartbeats 8000000 in
open_top hd03 for PySem.Challenge.rw_dn0125_03
end
end Mine
section
open PySem PySem.W PyProof.Rows
namespace Mine
/-- what a call of the def at f gives back, whatever frame calls it: n frames of room, the ledger as it was -/
def Cl (prog : Program) (w : World) (K : Frag) (p : Program) (loose : List Str) (mean : ExcName → Option Value) (mg mb : Str → Option Value) (f : Addr) (n : Nat) (pre : Prop) (vs : List Value) (R : Tok → Value) : Prop :=
  ∀ (news : List (Addr × Obj)) (dp un : Nat) (gd : Option (List Code)) (cn : Str) (cs : Scope) (a : Addr) (ccd : Value) (cl : List (Str × Addr)) (outer : List Env) (A₀ : Around) (base h₀ : Heap) (L : Addr) (m : Str → Option Value) (s : Shared) (Q E : Value → Shared → Prop),
    Below A₀ base outer h₀ → Fr h₀ L s.heap m → K.In h₀ → News h₀ L s.heap news → Top p loose mean mg mb h₀ → cs.kind = .function →
    pre → dp + n < recursionLimit → un + 8 * n < cLine →
    (∀ (t : Tok) (h' : Heap) (tk' : Nat), Fr h₀ L h' m → News h₀ L h' news → Q (R t) { s with heap := h', toks := tk' }) →
    wpAny (model prog w) (ktrTop dp un gd cn cs L a ccd cl outer) (call (.ref f) vs) Q E s
theorem Cl.use {prog : Program} {w : World} {K : Frag} {p : Program} {loose : List Str} {mean : ExcName → Option Value} {mg mb : Str → Option Value} {f : Addr} {n : Nat} {pre : Prop} {vs : List Value} {R : Tok → Value}
    {news : List (Addr × Obj)} {dp un : Nat} {gd : Option (List Code)} {cn : Str} {cs : Scope} {a : Addr} {ccd : Value} {cl : List (Str × Addr)} {outer : List Env} {A₀ : Around} {base h₀ : Heap} {L : Addr} {m : Str → Option Value} {s : Shared} {Q E : Value → Shared → Prop}
    (B : Below A₀ base outer h₀) (F : Fr h₀ L s.heap m) (X : K.In h₀) (N : News h₀ L s.heap news) (T : Top p loose mean mg mb h₀) (hk : cs.kind = .function) (C : Cl prog w K p loose mean mg mb f n pre vs R)
    (hp : pre) (hd : dp + n < recursionLimit) (hu : un + 8 * n < cLine)
    (ret : ∀ (t : Tok) (h' : Heap) (tk' : Nat), Fr h₀ L h' m → News h₀ L h' news → Q (R t) { s with heap := h', toks := tk' }) :
    wpAny (model prog w) (ktrTop dp un gd cn cs L a ccd cl outer) (call (.ref f) vs) Q E s := C _ _ _ _ _ _ _ _ _ _ _ _ _ _ _ _ _ _ B F X N T hk hp hd hu ret
end Mine
abbrev Mine.C3 (w : World) (mean : ExcName → Option Value) (mg mb : Str → Option Value) (f : Addr) (n : Nat) (pre : Prop) (vs : List Value) (R : Tok → Value) : Prop :=
  Mine.Cl Challenge.rw_dn0125_03.row.prog w (Mine.hd03.heap_39 w.params) Mine.hd03.view_39 (looseW Mine.hd03.view_39 [Str.ofString "_ilog"]) mean mg mb f n pre vs R
local macro_rules | `(tactic| bits_by_make) => `(tactic| first | exact Mine.bits_scale (by assumption) | exact Mine.bits_scale (Mine.Pre.sc (by assumption)) | exact Mine.bits_x (by assumption) | exact Mine.bits_y (by assumption) | exact Mine.bits_len (by assumption) | exact Mine.bits_len (Mine.Pre.sc (by assumption)) | exact Mine.bits_w (by assumption) | exact Mine.bits_part | exact Mine.bits_power (by assumption) | ((with_reducible apply Mine.bits_sq); bits_by_make) | ((with_reducible apply Mine.bits_rsn); bits_by_make) | ((with_reducible apply Mine.bits_divN); bits_by_make) | fail "no own bits")
local macro_rules | `(tactic| walk_at "unaryOp USub int") => `(tactic| (k_here; (first | (with_reducible refine Mine.T_neg (by assumption) ?_) | (with_reducible refine Mine.T_neg (Mine.Pre.sc (by assumption)) ?_)); intro T' hT' hT1' hT2'))
local macro_rules | `(tactic| walk_at "execs cons") => `(tactic| (k_here; (try dsimp only); k_gentoks))
local macro_rules | `(tactic| walk_at "call type:str") => `(tactic| (k_here; (first | (with_reducible refine P.str_of_int (Mine.str_ok (by assumption)) ?_) | (with_reducible refine P.str_of_int (Mine.str_ok (Mine.Pre.sc (by assumption))) ?_))))
local macro_rules | `(tactic| walk_at "call builtin:len") => `(tactic| (k_here; (with_reducible show wpAny _ _ (call (Value.builtin "len") [Value.str (PySem.Str.ofString (toString (_ : Int))) _]) _ _ _); (first | (with_reducible refine SBL.len (Mine.len_ok (by assumption)) ?_) | (with_reducible refine SBL.len (Mine.len_ok (Mine.Pre.sc (by assumption))) ?_))))
local macro_rules | `(tactic| l_fact) => `(tactic| first | (with_reducible exact Mine.M_dv (by assumption)) | (with_reducible exact Mine.M_dv (Mine.Pre.sc (by assumption))) | (with_reducible exact Mine.T_dv (by assumption) (by assumption)) | (with_reducible exact Mine.wi_sq (by assumption) ((Mine.test_low (by assumption) (by assumption)).mp (by assumption))) | (with_reducible exact Mine.wi_sq (by assumption) ((Mine.test_high (by assumption) (by omega)).mp (by assumption))) | (with_reducible exact Mine.wi_dv (by assumption) ((Mine.test_low (by assumption) (by assumption)).mp (by assumption))) | (with_reducible exact Mine.wi_dv (by assumption) ((Mine.test_high (by assumption) (by omega)).mp (by assumption))) | ((with_reducible refine Mine.k_dv ?kdA ?kdB); (case kdA => omega); (case kdB => omega)) | fail "no own fact")
local macro_rules | `(tactic| walk_at "binaryOp LShift int int") => `(tactic| (k_here; (with_reducible refine lshift_int ?kbn ?kbs ?_); (case kbn => omega); (case kbs => (refine' kbm_shl ?kba ?kbc ?kbd; (case kba => bits_by_make); (case kbc => omega); (case kbd => decide)))))
local macro_rules | `(tactic| walk_at "binaryOp FloorDiv int int") => `(tactic| (k_here; first | ((with_reducible refine floordiv_int ?fdA ?_ (Or.inl (PyProof.noPylong_of_log2 (Mine.SI.log (by assumption))))); (case fdA => omega)) | (have fdH := Mine.ll_under (by assumption); (with_reducible refine floordiv_int (And.left fdH) ?_ (Or.inl (PyProof.noPylong_of_log2 (And.right fdH))))) | (have fdH := Mine.ll_k (by assumption); (with_reducible refine floordiv_int (And.left fdH) ?_ (Or.inl (PyProof.noPylong_of_log2 (And.right fdH))))) | (have fdH := Mine.lp_sum (Mine.lp_pos (by assumption) (by assumption)); (with_reducible refine floordiv_int (And.left fdH) ?_ (Or.inl (PyProof.noPylong_of_log2 (And.right fdH))))) | (have fdH := Mine.lp_sum (Mine.lp_neg (by assumption) (by assumption)); (with_reducible refine floordiv_int (And.left fdH) ?_ (Or.inl (PyProof.noPylong_of_log2 (And.right fdH)))))))
local macro_rules | `(tactic| walk_at "call builtin:divmod") => `(tactic| (k_here; (with_reducible show wpAny _ _ (call (Value.builtin _) [Value.int _ _, Value.int _ _]) _ _ _); (refine divmod_N (by assumption) (by assumption) ?dvA ?_ (Or.inl (PyProof.noPylong_of_log2 (Mine.Sz.log (And.right (by assumption)))))); (case dvA => omega); intro h' F' N'))
set_option maxRecDepth 100000 in
set_option maxHeartbeats 4000000 in
theorem Mine.rsn3 (w : World) (mean : ExcName → Option Value) (mg mb : Str → Option Value) (x s : Int) (tx ts : Tok) : Mine.C3 w mean mg mb 28 1 (0 ≤ s ∧ s ≤ 100000) [.int x tx, .int s ts] (fun t => .int (Lg.rsn x s) t) := by
  unfold Mine.C3 Mine.Cl
  k_fill
  k_with_none
  k_with "tree" => exact Mine.rsn_tree _ _
  intro news dp un gd cn cs a ccd cl outer A₀ base h₀ L m s Q E
  intros; rename_i hret
  refine wpAny_call ?_
  k_dflt (refine' code_def ?k1 ?k2 ?k3 ?k4 ?k5 ?kA ?kF ?kK ?k6 ?k7 ?k8 ?k9 ?kB ?_ ?c2 ?c3 ?c4 ?c5; (case kA => exact rfl); (case kF => exact rfl); (case kK => assumption); (case k1 => k_asm); (case k2 => k_asm); (case k3 => k_asm); (case k4 => k_asm); (case k5 => k_asm); (case k6 => k_is); (case k7 => k_is); (case k8 => ktr_room); (case k9 => first | exact BindsTo.of_eq rfl | exact binds_K (by k_in) rfl (by k_is) rfl rfl rfl); (case c5 => decide); (case kB => exact locs rfl); (case c2 => exact rfl); (case c3 => exact rfl); (case c4 => exact rfl); k_whole; intro g' L' h' FG' F' N' B' X' T'; (try dsimp only); (try k_lift B'); (try k_fold))
  w_strict k_steps
  w_strict (all_goals cb_end hret)
set_option maxRecDepth 100000 in
set_option maxHeartbeats 4000000 in
theorem Mine.div3 (w : World) (mean : ExcName → Option Value) (mg mb : Str → Option Value) (x s : Int) (tx ts : Tok) : Mine.C3 w mean mg mb 35 1 (0 < s ∧ Mine.Sz s) [.int x tx, .int s ts] (fun t => .int (Lg.divN x s) t) := by
  unfold Mine.C3 Mine.Cl
  k_fill
  k_with_none
  k_with "tree" => exact Mine.divN_tree _ _
  intro news dp un gd cn cs a ccd cl outer A₀ base h₀ L m s Q E
  intros; rename_i hret
  refine wpAny_call ?_
  k_dflt (refine' code_def ?k1 ?k2 ?k3 ?k4 ?k5 ?kA ?kF ?kK ?k6 ?k7 ?k8 ?k9 ?kB ?_ ?c2 ?c3 ?c4 ?c5; (case kA => exact rfl); (case kF => exact rfl); (case kK => assumption); (case k1 => k_asm); (case k2 => k_asm); (case k3 => k_asm); (case k4 => k_asm); (case k5 => k_asm); (case k6 => k_is); (case k7 => k_is); (case k8 => ktr_room); (case k9 => first | exact BindsTo.of_eq rfl | exact binds_K (by k_in) rfl (by k_is) rfl rfl rfl); (case c5 => decide); (case kB => exact locs rfl); (case c2 => exact rfl); (case c3 => exact rfl); (case c4 => exact rfl); k_whole; intro g' L' h' FG' F' N' B' X' T'; (try dsimp only); (try k_lift B'); (try k_fold))
  w_strict k_steps
  w_strict (all_goals cb_end hret)
set_option maxRecDepth 100000 in
set_option maxHeartbeats 4000000 in
theorem Mine.sq3 (w : World) (mean : ExcName → Option Value) (mg mb : Str → Option Value) (n a : Int) (tn ta : Tok) : Mine.C3 w mean mg mb 21 1 ((1 ≤ n ∧ 1 ≤ a) ∧ Mine.SqPre n a) [.int n tn, .int a ta] (fun t => .int (Lg.sqN n a) t) := by
  unfold Mine.C3 Mine.Cl
  k_fill
  k_with_none
  k_with "tree" => exact Mine.sq_tree (by assumption) (by assumption) (by assumption)
  k_with "exec While Compare cons nil" => k_while_given ["n"] (fun n script a b => Mine.SI n a b ∧ 1 ≤ a) (fun n script a b => Mine.mu n a b) "a" "b"
  k_with "state" => first | exact Mine.si_start (by assumption) | exact Mine.si_up (by assumption)
  k_with "measure" => exact Mine.si_mu (by assumption) (by assumption)
  intro news dp un gd cn cs a ccd cl outer A₀ base h₀ L m s Q E
  intros; rename_i hret
  refine wpAny_call ?_
  k_dflt (refine' code_def ?k1 ?k2 ?k3 ?k4 ?k5 ?kA ?kF ?kK ?k6 ?k7 ?k8 ?k9 ?kB ?_ ?c2 ?c3 ?c4 ?c5; (case kA => exact rfl); (case kF => exact rfl); (case kK => assumption); (case k1 => k_asm); (case k2 => k_asm); (case k3 => k_asm); (case k4 => k_asm); (case k5 => k_asm); (case k6 => k_is); (case k7 => k_is); (case k8 => ktr_room); (case k9 => first | exact BindsTo.of_eq rfl | exact binds_K (by k_in) rfl (by k_is) rfl rfl rfl); (case c5 => decide); (case kB => exact locs rfl); (case c2 => exact rfl); (case c3 => exact rfl); (case c4 => exact rfl); k_whole; intro g' L' h' FG' F' N' B' X' T'; (try dsimp only); (try k_lift B'); (try k_fold))
  w_strict k_steps
  w_strict (all_goals cb_end hret)
local macro_rules | `(tactic| walk_at "call ref") => `(tactic| (k_here; (with_reducible show wpAny _ _ (call (Value.ref 28) [Value.int _ _, Value.int _ _]) _ _ _); (k_dflt (refine' Mine.Cl.use ?k1 ?k2 ?k3 ?k4 ?k5 ?kK (Mine.rsn3 _ _ _ _ _ _ _ _) ?kp ?kd ?ku ?_; (case k1 => k_asm); (case k2 => k_asm); (case k3 => k_asm); (case k4 => k_asm); (case k5 => k_asm); (case kK => first | exact rfl | assumption); (case kp => first | ((try dsimp only); first | assumption | omega | l_fact)); (case kd => ktr_room); (case ku => ktr_units); intro t9 h9 tk9 F9 N9; (try dsimp only); (try k_fold)))))
local macro_rules | `(tactic| walk_at "call ref") => `(tactic| (k_here; (with_reducible show wpAny _ _ (call (Value.ref 35) [Value.int _ _, Value.int _ _]) _ _ _); (k_dflt (refine' Mine.Cl.use ?k1 ?k2 ?k3 ?k4 ?k5 ?kK (Mine.div3 _ _ _ _ _ _ _ _) ?kp ?kd ?ku ?_; (case k1 => k_asm); (case k2 => k_asm); (case k3 => k_asm); (case k4 => k_asm); (case k5 => k_asm); (case kK => first | exact rfl | assumption); (case kp => first | ((try dsimp only); first | assumption | omega | l_fact)); (case kd => ktr_room); (case ku => ktr_units); intro t9 h9 tk9 F9 N9; (try dsimp only); (try k_fold)))))
local macro_rules | `(tactic| walk_at "call ref") => `(tactic| (k_here; (with_reducible show wpAny _ _ (call (Value.ref 21) [Value.int _ _, Value.int _ _]) _ _ _); (k_dflt (refine' Mine.Cl.use ?k1 ?k2 ?k3 ?k4 ?k5 ?kK (Mine.sq3 _ _ _ _ _ _ _ _) ?kp ?kd ?ku ?_; (case k1 => k_asm); (case k2 => k_asm); (case k3 => k_asm); (case k4 => k_asm); (case k5 => k_asm); (case kK => first | exact rfl | assumption); (case kp => first | ((try dsimp only); first | assumption | omega | l_fact)); (case kd => ktr_room); (case ku => ktr_units); intro t9 h9 tk9 F9 N9; (try dsimp only); (try k_fold)))))
set_option maxRecDepth 100000 in
set_option maxHeartbeats 4000000 in
theorem Mine.ilog3 (w : World) (mean : ExcName → Option Value) (mg mb : Str → Option Value) (x M : Int) (tx tM : Tok) : Mine.C3 w mean mg mb 43 3 (Mine.Pre x M) [.int x tx, .int M tM] (fun t => .int (Mine.ilog x M) t) := by
  unfold Mine.C3 Mine.Cl
  k_fill
  k_with_none
  k_with "tree" => first | exact Mine.ilog_tree (by assumption) (Mine.na_low (by assumption) (by assumption) (by assumption)) (by assumption) (by assumption) (by assumption) (by omega) | exact Mine.ilog_tree (by assumption) (Mine.na_high (by assumption) (by omega) (by assumption)) (by assumption) (by assumption) (by assumption) (by omega)
  k_with "exec While BoolOp cons nil" => k_while_given ["x", "M"] (fun x M script y R => Mine.WI x M y R ∧ 0 ≤ R ∧ R ≤ 10) (fun x M script y R => (10 - R).toNat) "y" "R"
  k_with "state" => first | (with_reducible exact Mine.wb_up (by assumption) (by omega) (by omega)) | exact Mine.wb_start (by assumption) (Mine.na_low (by assumption) (by assumption) (by assumption)) (by assumption) | exact Mine.wb_start (by assumption) (Mine.na_high (by assumption) (by omega) (by assumption)) (by assumption) | exact Mine.wb_up (by assumption) (by omega) (by omega) | exact Mine.wi_start (by assumption) | exact Mine.wi_up' (by assumption) ((Mine.test_low (by assumption) (by assumption)).mp (by assumption)) | exact Mine.wi_up' (by assumption) ((Mine.test_high (by assumption) (by omega)).mp (by assumption))
  k_with "pyIter ref" => k_state_given ["M", "yshift", "w!"] (fun M ys w0 pre w => Mine.WB M ys w0 pre w) "w"
  k_with "measure" => first | exact Mine.wi_mu (by assumption) ((Mine.test_low (by assumption) (by assumption)).mp (by assumption)) | exact Mine.wi_mu (by assumption) ((Mine.test_high (by assumption) (by omega)).mp (by assumption))
  intro news dp un gd cn cs a ccd cl outer A₀ base h₀ L m s Q E
  intros; rename_i hret
  refine wpAny_call ?_
  k_dflt (refine' code_def ?k1 ?k2 ?k3 ?k4 ?k5 ?kA ?kF ?kK ?k6 ?k7 ?k8 ?k9 ?kB ?_ ?c2 ?c3 ?c4 ?c5; (case kA => exact rfl); (case kF => exact rfl); (case kK => assumption); (case k1 => k_asm); (case k2 => k_asm); (case k3 => k_asm); (case k4 => k_asm); (case k5 => k_asm); (case k6 => k_is); (case k7 => k_is); (case k8 => ktr_room); (case k9 => first | exact BindsTo.of_eq rfl | exact binds_K (by k_in) rfl (by k_is) rfl rfl rfl); (case c5 => decide); (case kB => exact locs rfl); (case c2 => exact rfl); (case c3 => exact rfl); (case c4 => exact rfl); k_whole; intro g' L' h' FG' F' N' B' X' T'; (try dsimp only); (try k_lift B'); (try k_fold))
  w_strict k_steps
  w_strict (all_goals cb_end hret)

end
section
open PySem PySem.W PyProof.Rows
namespace Mine
/-- a call that hands back a new pair of ints -/
def ClT (prog : Program) (w : World) (K : Frag) (p : Program) (loose : List Str) (mean : ExcName → Option Value) (mg mb : Str → Option Value) (f : Addr) (n : Nat) (pre : Prop) (vs : List Value) (R : Int → Int → Prop) : Prop :=
  ∀ (news : List (Addr × Obj)) (dp un : Nat) (gd : Option (List Code)) (cn : Str) (cs : Scope) (a : Addr) (ccd : Value) (cl : List (Str × Addr)) (outer : List Env) (A₀ : Around) (base h₀ : Heap) (L : Addr) (m : Str → Option Value) (s : Shared) (Q E : Value → Shared → Prop),
    Below A₀ base outer h₀ → Fr h₀ L s.heap m → K.In h₀ → News h₀ L s.heap news → Top p loose mean mg mb h₀ → cs.kind = .function →
    pre → dp + n < recursionLimit → un + 8 * n < cLine →
    (∀ (D : Addr) (v₁ v₂ : Int) (t₁ t₂ : Tok) (c : Nat) (h' : Heap) (tk' : Nat), R v₁ v₂ → Fr h₀ L h' m → News h₀ L h' ((D, ({ cls := .type "tuple", data := .seq #[.int v₁ t₁, .int v₂ t₂] c } : Obj)) :: news) → Q (.ref D) { s with heap := h', toks := tk' }) →
    wpAny (model prog w) (ktrTop dp un gd cn cs L a ccd cl outer) (call (.ref f) vs) Q E s
theorem ClT.use {prog : Program} {w : World} {K : Frag} {p : Program} {loose : List Str} {mean : ExcName → Option Value} {mg mb : Str → Option Value} {f : Addr} {n : Nat} {pre : Prop} {vs : List Value} {R : Int → Int → Prop}
    {news : List (Addr × Obj)} {dp un : Nat} {gd : Option (List Code)} {cn : Str} {cs : Scope} {a : Addr} {ccd : Value} {cl : List (Str × Addr)} {outer : List Env} {A₀ : Around} {base h₀ : Heap} {L : Addr} {m : Str → Option Value} {s : Shared} {Q E : Value → Shared → Prop}
    (B : Below A₀ base outer h₀) (F : Fr h₀ L s.heap m) (X : K.In h₀) (N : News h₀ L s.heap news) (T : Top p loose mean mg mb h₀) (hk : cs.kind = .function) (C : ClT prog w K p loose mean mg mb f n pre vs R)
    (hp : pre) (hd : dp + n < recursionLimit) (hu : un + 8 * n < cLine)
    (ret : ∀ (D : Addr) (v₁ v₂ : Int) (t₁ t₂ : Tok) (c : Nat) (h' : Heap) (tk' : Nat), R v₁ v₂ → Fr h₀ L h' m → News h₀ L h' ((D, ({ cls := .type "tuple", data := .seq #[.int v₁ t₁, .int v₂ t₂] c } : Obj)) :: news) → Q (.ref D) { s with heap := h', toks := tk' }) :
    wpAny (model prog w) (ktrTop dp un gd cn cs L a ccd cl outer) (call (.ref f) vs) Q E s := C _ _ _ _ _ _ _ _ _ _ _ _ _ _ _ _ _ _ B F X N T hk hp hd hu ret
def LogR (a b unit lo hi : Int) : Prop := ∃ power low k : Int, LL a b unit power low k ∧ ¬ 0 < power ∧ lo = 2 * low ∧ hi = 2 * low + 4 * k + 4
theorem logR {a b unit power low k : Int} (h : LL a b unit power low k) (hp : ¬ 0 < power) : LogR a b unit (2 * low) (2 * low + 4 * k + 4) := ⟨power, low, k, h, hp, rfl, rfl⟩
end Mine
local macro_rules | `(tactic| walk_at "execs cons") => `(tactic| (k_here; (try dsimp only); k_gentoks))
local macro_rules | `(tactic| walk_at "binaryOp Pow int int") => `(tactic| (k_here; (with_reducible show wpAny _ _ (binaryOp Operator.Pow (Value.int _ _) (Value.int 2 _)) _ _ _); (with_reducible refine pow_int ?pwA ?pwB ?_); (case pwA => decide); (case pwB => (refine' Mine.pow2_ok ?pwC ?pwD; (case pwC => bits_by_make); (case pwD => decide)))))
local macro_rules | `(tactic| bits_by_make) => `(tactic| first | exact Mine.LP.ab (by assumption) | exact Mine.LP.bb (by assumption) | exact Mine.LP.ub (by assumption) | exact Mine.bits_power (by assumption) | ((with_reducible apply Mine.bits_sq); bits_by_make) | fail "no own bits")
local macro_rules | `(tactic| walk_at "binaryOp FloorDiv int int") => `(tactic| (k_here; first | (have fdH := Mine.ll_under (by assumption); (with_reducible refine floordiv_int (And.left fdH) ?_ (Or.inl (PyProof.noPylong_of_log2 (And.right fdH))))) | (have fdH := Mine.ll_k (by assumption); (with_reducible refine floordiv_int (And.left fdH) ?_ (Or.inl (PyProof.noPylong_of_log2 (And.right fdH))))) | (have fdH := Mine.lp_sum (by assumption); (with_reducible refine floordiv_int (And.left fdH) ?_ (Or.inl (PyProof.noPylong_of_log2 (And.right fdH)))))))
set_option maxRecDepth 100000 in
set_option maxHeartbeats 4000000 in
theorem Mine.llog3 (w : World) (mean : ExcName → Option Value) (mg mb : Str → Option Value) (a b unit : Int) (ta tb tu : Tok) :
    Mine.ClT Challenge.rw_dn0125_03.row.prog w (Mine.hd03.heap_39 w.params) Mine.hd03.view_39 (looseW Mine.hd03.view_39 [Str.ofString "_ilog"]) mean mg mb 50 1 (Mine.LP a b unit) [.int a ta, .int b tb, .int unit tu] (Mine.LogR a b unit) := by
  unfold Mine.ClT
  k_fill
  k_with_none
  k_with "exec While Compare cons nil" => k_while_given ["a", "b", "unit"] (fun a b unit script power low k => Mine.LL a b unit power low k) (fun a b unit script power low k => power.toNat) "power" "low" "k"
  k_with "state" => first | exact Mine.ll_start (by assumption) | exact Mine.ll_up (by assumption) (by assumption)
  k_with "measure" => exact Mine.ll_mu (by assumption) (by assumption)
  intro news dp un gd cn cs a ccd cl outer A₀ base h₀ L m s Q E
  intros; rename_i hret
  refine wpAny_call ?_
  k_dflt (refine' code_def ?k1 ?k2 ?k3 ?k4 ?k5 ?kA ?kF ?kK ?k6 ?k7 ?k8 ?k9 ?kB ?_ ?c2 ?c3 ?c4 ?c5; (case kA => exact rfl); (case kF => exact rfl); (case kK => assumption); (case k1 => k_asm); (case k2 => k_asm); (case k3 => k_asm); (case k4 => k_asm); (case k5 => k_asm); (case k6 => k_is); (case k7 => k_is); (case k8 => ktr_room); (case k9 => first | exact BindsTo.of_eq rfl | exact binds_K (by k_in) rfl (by k_is) rfl rfl rfl); (case c5 => decide); (case kB => exact locs rfl); (case c2 => exact rfl); (case c3 => exact rfl); (case c4 => exact rfl); k_whole; intro g' L' h' FG' F' N' B' X' T'; (try dsimp only); (try k_lift B'); (try k_fold))
  w_strict k_steps
  all_goals first | exact hret _ _ _ _ _ _ _ _ (Mine.logR (by assumption) (by assumption)) (by k_asm) (by first | k_asm | (refine' cb_drop ?cbN ?cbS; (case cbN => assumption); (case cbS => kcj_all)))

end
section
open PySem PySem.W PyProof.Rows
namespace Mine
theorem g3_lp {d M r lo hi : Int} (D : Dist d M r) (L : LogR (M + d) M (M * 10 ^ Int.toNat 20) lo hi) (g : 100 * 10 ^ Int.toNat 20 * ilog (M + d) M ≤ 100 * lo - (52 + 54 * r) * 10 ^ Int.toNat 20) : False := by
  obtain ⟨power, low, k, h, hp, e1, e2⟩ := L; subst e1; exact f3_lp rfl D h hp g
theorem g3_hp {d M r lo hi : Int} (D : Dist d M r) (L : LogR (M + d) M (M * 10 ^ Int.toNat 20) lo hi) (g : 100 * hi + (52 + 54 * r) * 10 ^ Int.toNat 20 ≤ 100 * 10 ^ Int.toNat 20 * ilog (M + d) M) : False := by
  obtain ⟨power, low, k, h, hp, e1, e2⟩ := L; subst e2; exact f3_hp rfl D h hp g
theorem g3_lm {d M r lo hi : Int} (D : Dist d M r) (L : LogR M (M - d) (M * 10 ^ Int.toNat 20) lo hi) (g : 100 * 10 ^ Int.toNat 20 * (-ilog (M - d) M) ≤ 100 * lo - (52 + 54 * r) * 10 ^ Int.toNat 20) : False := by
  obtain ⟨power, low, k, h, hp, e1, e2⟩ := L; subst e1; exact f3_lm rfl D h hp g
theorem g3_hm {d M r lo hi : Int} (D : Dist d M r) (L : LogR M (M - d) (M * 10 ^ Int.toNat 20) lo hi) (g : 100 * hi + (52 + 54 * r) * 10 ^ Int.toNat 20 ≤ 100 * 10 ^ Int.toNat 20 * (-ilog (M - d) M)) : False := by
  obtain ⟨power, low, k, h, hp, e1, e2⟩ := L; subst e2; exact f3_hm rfl D h hp g
theorem g3_lz {d M r lo hi : Int} (D : Dist d M r) (L : LogR M (M - d) (M * 10 ^ Int.toNat 20) lo hi) (hx : M ≤ M - d) (g : 100 * 10 ^ Int.toNat 20 * ilog (M - d) M ≤ 100 * lo - (52 + 54 * r) * 10 ^ Int.toNat 20) : False := by
  obtain ⟨power, low, k, h, hp, e1, e2⟩ := L; subst e1; exact f3_lz rfl D h hp hx g
theorem g3_hz {d M r lo hi : Int} (D : Dist d M r) (L : LogR M (M - d) (M * 10 ^ Int.toNat 20) lo hi) (hx : M ≤ M - d) (g : 100 * hi + (52 + 54 * r) * 10 ^ Int.toNat 20 ≤ 100 * 10 ^ Int.toNat 20 * ilog (M - d) M) : False := by
  obtain ⟨power, low, k, h, hp, e1, e2⟩ := L; subst e2; exact f3_hz rfl D h hp hx g
end Mine
local macro_rules | `(tactic| walk_at "binaryOp Add int int") => `(tactic| (k_here; (with_reducible show wpAny _ _ (binaryOp Operator.Add (Value.int 1 _) (Value.int (Int.fmod _ (10 ^ Int.toNat 200)) _)) _ _ _); (with_reducible refine Mine.scale_add ?_); intro M' hS'; (have hM1' := Mine.Scale.lo hS')))
local macro_rules | `(tactic| walk_at "execs cons") => `(tactic| (k_here; (try dsimp only); k_gentoks))
local macro_rules | `(tactic| walk_at "exec For Name BinOp cons nil") => `(tactic| (k_here; (rename Fr _ _ _ _ => lF'); (with_unfolding_all refine' For_invVF lF' ?k1 ?k2 ?_; (case k1 => exact rfl); (case k2 => exact rfl); k_whole)))
local macro_rules | `(tactic| walk_at "binaryOp Mod int int") => `(tactic| (k_here; (with_reducible refine Mine.d_mod (by assumption) (by omega) (by omega) ?_)))
local macro_rules | `(tactic| walk_at "binaryOp Sub int int") => `(tactic| (k_here; (with_reducible refine Mine.d_sub (by assumption) (by omega) (by omega) ?_); intro d' hD'; (have hd0' := Mine.Dist.d0 hD')))
local macro_rules | `(tactic| walk_at "pyIter ref") => `(tactic| (k_of "r" => ((rename IsRange _ _ _ _ _ _ _ _ => rgX); (obtain ⟨b9, hb9, hr9⟩ := Mine.range4 rgX); clear rgX; k_search (fun pre => True))))
local macro_rules | `(tactic| walk_at "binaryOp FloorDiv int int") => `(tactic| (k_here; (with_reducible refine Mine.most_div ?mdA ?mdB ?_); (case mdA => omega); (case mdB => omega)))
local macro_rules | `(tactic| walk_at "exec For Name Tuple cons nil") => `(tactic| (k_here; (rename Fr _ _ _ _ => lF'); (with_unfolding_all refine' For_invVF lF' ?k1 ?k2 ?_; (case k1 => exact rfl); (case k2 => exact rfl); k_whole)))
local macro_rules | `(tactic| walk_at "pyIter ref") => `(tactic| (k_of "x" => (k_here; (rename Fr _ _ _ _ => lF'); (rename News _ _ _ _ => lN'); (with_unfolding_all refine' Mine.tup_search [Str.ofString "told", Str.ofString "low", Str.ofString "high"] (by rfl) lF' lN' (by k_all) ?tsT ?tsD); (all_goals (try clear lF' lN')); (case' tsT => (intro kN kT kU kH kTk kOwn kMem kOff kFr kNews; (have kMark : KstMark := kstMark); (try dsimp only [kstB] at kFr); (try dsimp only at kNews); (try simp only [List.nil_append, List.cons_append, List.append_nil] at kNews); (try dsimp only at kOff); (try simp only [List.map_cons, List.map_nil] at kOff); (rcases kMem with kMem | kMem) <;> subst kMem)); (case' tsD => (intro kU kH kTk kFr kNews; (have kMark : KstMark := kstMark); (try dsimp only [kstB] at kFr); (try dsimp only at kNews); (try simp only [List.nil_append, List.cons_append, List.append_nil] at kNews))); (all_goals (try k_fold)))))
local macro_rules | `(tactic| walk_at "call builtin:max") => `(tactic| (k_here; (rename Fr _ _ _ _ => lF'); (rename News _ _ _ _ => lN'); (first | (with_reducible refine Mine.max_p (by assumption) ?mxh lF' lN' ?_) | (with_reducible refine Mine.max_m (by assumption) ?mxh lF' lN' ?_)); (case mxh => with_unfolding_all rfl); clear lF' lN'; intro t' h' tk' F' N'))
local macro_rules | `(tactic| walk_at "call builtin:min") => `(tactic| (k_here; (rename Fr _ _ _ _ => lF'); (rename News _ _ _ _ => lN'); (first | (with_reducible refine Mine.min_p (by assumption) ?mxh lF' lN' ?_) | (with_reducible refine Mine.min_m (by assumption) ?mxh lF' lN' ?_)); (case mxh => with_unfolding_all rfl); clear lF' lN'; intro t' h' tk' F' N'))
local macro_rules | `(tactic| bits_by_make) => `(tactic| first | exact Mine.bits_d (by assumption) | ((with_reducible apply Mine.bits_neg3); bits_by_make) | fail "no own bits")
local macro_rules | `(tactic| bits_by_make) => `(tactic| first | exact Mine.bits_scale (by assumption) | exact Mine.bits_part | exact Mine.bits_ilog (Mine.Dist.pp (by assumption)) | exact Mine.bits_ilog (Mine.Dist.pm (by assumption)) | exact Mine.bits_d (by assumption) | ((with_reducible apply Mine.bits_neg3); bits_by_make) | fail "no own bits")
local macro_rules | `(tactic| walk_at "call ref") => `(tactic| (k_here; (with_reducible show wpAny _ _ (call (Value.ref 43) [Value.int _ _, Value.int _ _]) _ _ _); (k_dflt (refine' Mine.Cl.use ?k1 ?k2 ?k3 ?k4 ?k5 ?kK (Mine.ilog3 _ _ _ _ _ _ _ _) ?kp ?kd ?ku ?_; (case k1 => k_asm); (case k2 => k_asm); (case k3 => k_asm); (case k4 => k_asm); (case k5 => k_asm); (case kK => first | exact rfl | assumption); (case kp => first | exact Mine.Dist.pp (by assumption) | exact Mine.Dist.pm (by assumption)); (case kd => ktr_room); (case ku => ktr_units); intro t9 h9 tk9 F9 N9; (try dsimp only); (try k_fold)))))
local macro_rules | `(tactic| walk_at "call ref") => `(tactic| (k_here; (with_reducible show wpAny _ _ (call (Value.ref 50) [Value.int _ _, Value.int _ _, Value.int _ _]) _ _ _); (k_dflt (refine' Mine.ClT.use ?k1 ?k2 ?k3 ?k4 ?k5 ?kK (Mine.llog3 _ _ _ _ _ _ _ _ _ _) ?kp ?kd ?ku ?_; (case k1 => k_asm); (case k2 => k_asm); (case k3 => k_asm); (case k4 => k_asm); (case k5 => k_asm); (case kK => first | exact rfl | assumption); (case kp => first | exact Mine.lp3 (by assumption) | exact Mine.lp3m (by assumption)); (case kd => ktr_room); (case ku => ktr_units); intro D9 v9 u9 t9 s9 c9 h9 tk9 hR9 F9 N9; (try dsimp only); (try k_fold)))))
local macro_rules | `(tactic| kc_post) => `(tactic| ((refine postW_of (by wrow_shape) (w_eq_bool (w_res rfl) w_lit) ?_); exfalso; (first | exact Mine.g3_lp (by assumption) (by assumption) (by assumption) | exact Mine.g3_hp (by assumption) (by assumption) (by assumption) | exact Mine.g3_lm (by assumption) (by assumption) (by assumption) | exact Mine.g3_hm (by assumption) (by assumption) (by assumption) | exact Mine.g3_lz (by assumption) (by assumption) (by assumption) (by assumption) | exact Mine.g3_hz (by assumption) (by assumption) (by assumption) (by assumption))))
set_option maxRecDepth 100000 in
set_option maxHeartbeats 4000000 in
theorem PySem.Challenge.cw_dn0125_03_holds : PySem.Challenge.rw_dn0125_03.Holds := by
  refine Mine.hd03 ?_
  k_with_none
  k_with "state" => trivial
  k_with "pyIter ref" => (k_of "n" => k_search (fun pre => True))
  k_with "exec For Name Call cons nil" => kpr_for
  w_strict k_go
end
