import PyProof.Rows.All
import Wide.All
import OpenK.AllK
import Wide.FinOn
import PySem.Challenge.RW_dn0125_08
set_option Elab.async false
set_option linter.unusedVariables false
/- a logarithm of positive rationals by its bounds: LO r q says r ≤ log q, UP r q says log q ≤ r -/
namespace Lg
theorem tot (a b : Rat) : a ≤ b ∨ b ≤ a := Rat.le_total

theorem pow_nonneg {a : Rat} (h : 0 ≤ a) (n : Nat) : 0 ≤ a ^ n := by
  induction n with
  | zero => rw [Rat.pow_zero]; decide
  | succ n ih => rw [Rat.pow_succ]; exact Rat.mul_nonneg ih h
theorem pow_pos {a : Rat} (h : 0 < a) (n : Nat) : 0 < a ^ n := by
  induction n with
  | zero => rw [Rat.pow_zero]; decide
  | succ n ih => rw [Rat.pow_succ]; exact Rat.mul_pos ih h
theorem mul_le_mul {a b c d : Rat} (h1 : a ≤ b) (h2 : c ≤ d) (ha : 0 ≤ a) (hd : 0 ≤ d) : a * c ≤ b * d := by
  have x := Rat.mul_le_mul_of_nonneg_left h2 ha
  have y := Rat.mul_le_mul_of_nonneg_left h1 hd
  grind
theorem pow_le_pow {a b : Rat} (h : 0 ≤ a) (hab : a ≤ b) (n : Nat) : a ^ n ≤ b ^ n := by
  induction n with
  | zero => rw [Rat.pow_zero, Rat.pow_zero]; decide
  | succ n ih => rw [Rat.pow_succ, Rat.pow_succ]; exact mul_le_mul ih hab (pow_nonneg h n) (by grind)
theorem pow_lt_pow {a b : Rat} (h : 0 ≤ a) (hab : a < b) : ∀ n : Nat, 0 < n → a ^ n < b ^ n
  | 0, hn => absurd hn (by decide)
  | 1, _ => by simpa using hab
  | n + 2, _ => by
    have ih := pow_lt_pow h hab (n + 1) (by lia)
    rw [Rat.pow_succ, Rat.pow_succ b]
    have h1 : 0 ≤ a ^ (n + 1) := pow_nonneg h _
    have h2 := Rat.mul_le_mul_of_nonneg_left (show a ≤ b by grind) h1
    have h3 := Rat.mul_pos (show 0 < b ^ (n + 1) - a ^ (n + 1) by grind) (show 0 < b by grind)
    grind
theorem mul_pow (a b : Rat) (n : Nat) : (a * b) ^ n = a ^ n * b ^ n := by
  induction n with
  | zero => simp [Rat.pow_zero]
  | succ n ih => rw [Rat.pow_succ, Rat.pow_succ, Rat.pow_succ, ih]; grind
theorem one_pow (n : Nat) : (1 : Rat) ^ n = 1 := by
  induction n with
  | zero => rfl
  | succ n ih => rw [Rat.pow_succ, ih]; grind
/-- Bernoulli -/
theorem bern {x : Rat} (h : -1 ≤ x) (n : Nat) : 1 + n * x ≤ (1 + x) ^ n := by
  induction n with
  | zero => simp [Rat.pow_zero]; grind
  | succ n ih =>
    rw [Rat.pow_succ]
    have h0 : 0 ≤ 1 + x := by grind
    have h1 := Rat.mul_le_mul_of_nonneg_left ih h0
    have h2 : 0 ≤ (n : Rat) := by exact_mod_cast Nat.zero_le n
    have hx : 0 ≤ x * x := by
      rcases tot 0 x with a | a
      · exact Rat.mul_nonneg a a
      · have := Rat.mul_nonneg (show 0 ≤ -x by grind) (show 0 ≤ -x by grind); grind
    have h3 := Rat.mul_nonneg h2 hx
    have e : ((n + 1 : Nat) : Rat) = (n : Rat) + 1 := by push_cast; rfl
    rw [e]
    grind
/-- a number of turns above any bound -/
theorem arch (c : Rat) : ∃ N : Nat, c ≤ N := by
  refine ⟨c.ceil.toNat, ?_⟩
  have h := Rat.le_ceil (x := c)
  have h2 : (c.ceil : Rat) ≤ ((c.ceil.toNat : Int) : Rat) := by
    rw [Rat.intCast_le_intCast]; lia
  have h3 : (((c.ceil.toNat : Nat) : Int) : Rat) = ((c.ceil.toNat : Nat) : Rat) := by norm_cast
  grind

noncomputable def Ev (P : Nat → Prop) : Prop := ∃ N0 : Nat, ∀ N : Nat, N0 ≤ N → 0 < N → P N
theorem Ev.and {P Q : Nat → Prop} (h : Ev P) (g : Ev Q) : Ev fun N => P N ∧ Q N := by
  obtain ⟨a, ha⟩ := h
  obtain ⟨b, hb⟩ := g
  exact ⟨a + b, fun N hN h0 => ⟨ha N (by lia) h0, hb N (by lia) h0⟩⟩
theorem Ev.mono {P Q : Nat → Prop} (h : Ev P) (f : ∀ N : Nat, 0 < N → P N → Q N) : Ev Q := by
  obtain ⟨a, ha⟩ := h
  exact ⟨a, fun N hN h0 => f N h0 (ha N hN h0)⟩
theorem Ev.some {P : Nat → Prop} (h : Ev P) : ∃ N : Nat, 0 < N ∧ P N := by
  obtain ⟨a, ha⟩ := h
  exact ⟨a + 1, by lia, ha _ (by lia) (by lia)⟩
theorem Ev.large (c : Rat) : Ev fun N => c ≤ N := by
  obtain ⟨a, ha⟩ := arch c
  refine ⟨a, fun N hN _ => ?_⟩
  have : (a : Rat) ≤ (N : Rat) := Rat.natCast_le_natCast.mpr hN
  grind
theorem npos {N : Nat} (h : 0 < N) : (0 : Rat) < N := by exact_mod_cast h

noncomputable def LO (r q : Rat) : Prop := ∀ d : Rat, 0 < d → Ev fun N => (1 + (r - d) / N) ^ N ≤ q
noncomputable def UP (r q : Rat) : Prop := ∀ d : Rat, 0 < d → Ev fun N => q ≤ (1 + (r + d) / N) ^ N

theorem div_small {c : Rat} : Ev fun N => -1 ≤ c / N ∧ c / N ≤ 1 := by
  refine ((Ev.large c).and (Ev.large (-c))).mono fun N h0 h => ?_
  have hN := npos h0
  constructor
  · have : c / N * N = c := by grind
    rcases tot (-1) (c / N) with a | a
    · exact a
    · have := Rat.mul_nonneg (show 0 ≤ -1 - c / N by grind) (show (0:Rat) ≤ N by grind)
      have : c / N = -1 := by
        have : (-1 - c / N) * N = 0 := by grind
        grind
      grind
  · have : c / N * N = c := by grind
    rcases tot (c / N) 1 with a | a
    · exact a
    · have := Rat.mul_nonneg (show 0 ≤ c / N - 1 by grind) (show (0:Rat) ≤ N by grind)
      have : (c / N - 1) * N = 0 := by grind
      grind
theorem div_le_div {a b n : Rat} (h : a ≤ b) (hn : 0 < n) : a / n ≤ b / n := by
  have := Rat.mul_nonneg (show 0 ≤ b - a by grind) (show 0 ≤ n⁻¹ by have := Rat.inv_pos.mpr hn; grind)
  grind

theorem LO.mono {r s p q : Rat} (h : LO r p) (hr : s ≤ r) (hq : p ≤ q) : LO s q := fun d hd =>
  ((h d hd).and (div_small (c := s - d))).mono fun N h0 g => by
    have hN := npos h0
    have a := div_le_div (show s - d ≤ r - d by grind) hN
    have b := pow_le_pow (show 0 ≤ 1 + (s - d) / N by grind) (show 1 + (s - d) / N ≤ 1 + (r - d) / N by grind) N
    grind
theorem UP.mono {r s p q : Rat} (h : UP r p) (hr : r ≤ s) (hq : q ≤ p) : UP s q := fun d hd =>
  ((h d hd).and (div_small (c := r + d))).mono fun N h0 g => by
    have hN := npos h0
    have a := div_le_div (show r + d ≤ s + d by grind) hN
    have b := pow_le_pow (show 0 ≤ 1 + (r + d) / N by grind) (show 1 + (r + d) / N ≤ 1 + (s + d) / N by grind) N
    grind
theorem LO.lim {r q : Rat} (h : ∀ e : Rat, 0 < e → LO (r - e) q) : LO r q := fun d hd =>
  (h (d / 2) (by grind) (d / 2) (by grind)).mono fun N _ g => by
    have : r - d / 2 - d / 2 = r - d := by grind
    rw [this] at g
    exact g
theorem UP.lim {r q : Rat} (h : ∀ e : Rat, 0 < e → UP (r + e) q) : UP r q := fun d hd =>
  (h (d / 2) (by grind) (d / 2) (by grind)).mono fun N _ g => by
    have : r + d / 2 + d / 2 = r + d := by grind
    rw [this] at g
    exact g
theorem LO.le {r s q : Rat} (h : LO r q) (g : UP s q) : r ≤ s := by
  rcases tot r s with a | a
  · exact a
  rcases Rat.le_iff_lt_or_eq.mp a with a | a
  · exfalso
    let d := (r - s) / 4
    have hd : 0 < d := by grind
    obtain ⟨N, h0, ⟨x, y⟩, ⟨z, _⟩⟩ := (((h d hd).and (g d hd)).and (div_small (c := s + d))).some
    have hN := npos h0
    have hlt : (s + d) / N < (r - d) / N := by
      have := Rat.mul_pos (show 0 < (r - d) - (s + d) by grind) (Rat.inv_pos.mpr hN)
      grind
    have := pow_lt_pow (show 0 ≤ 1 + (s + d) / N by grind) (show 1 + (s + d) / N < 1 + (r - d) / N by grind) N h0
    grind
  · grind
/-- strictly apart bounds part the numbers -/
theorem lt_of {r s p q : Rat} (h : UP r p) (g : LO s q) (hrs : r < s) : p < q := by
  rcases tot q p with a | a
  · have := (g.mono (Rat.le_refl) a).le h
    grind
  · rcases Rat.le_iff_lt_or_eq.mp a with a | a
    · exact a
    · subst a
      have := g.le h
      grind
theorem sq_small {c e : Rat} (he : 0 < e) : Ev fun N => -e ≤ c / N ∧ c / N ≤ e := by
  refine (div_small (c := c / e)).mono fun N h0 h => ?_
  have hN := npos h0
  have e1 : c / N = (c / e / N) * e := by grind
  have a := Rat.mul_nonneg (show 0 ≤ c / e / N + 1 by grind) (show 0 ≤ e by grind)
  have b := Rat.mul_nonneg (show 0 ≤ 1 - c / e / N by grind) (show 0 ≤ e by grind)
  grind
theorem LO.mul {r s p q : Rat} (h : LO r p) (g : LO s q) (hq : 0 < q) : LO (r + s) (p * q) := fun d hd => by
  have hd3 : 0 < d / 3 := by grind
  refine ((((h _ hd3).and (g _ hd3)).and ((div_small (c := r - d / 3)).and (div_small (c := s - d / 3)))).and ((div_small (c := r + s - d)).and (sq_small (c := (r - d / 3) * (s - d / 3)) hd3))).mono fun N h0 k => ?_
  obtain ⟨⟨⟨a, b⟩, ⟨c1, _⟩, ⟨c2, _⟩⟩, ⟨c3, _⟩, c4, _⟩ := k
  have hN := npos h0
  have key : 1 + (r + s - d) / N ≤ (1 + (r - d / 3) / N) * (1 + (s - d / 3) / N) := by
    have x := div_le_div (show -(d/3) ≤ (r - d / 3) * (s - d / 3) / N by grind) hN
    grind
  have m := pow_le_pow (show 0 ≤ 1 + (r + s - d) / N by grind) key N
  rw [mul_pow] at m
  have := mul_le_mul a b (pow_nonneg (by grind) N) (by grind)
  grind
theorem UP.mul {r s p q : Rat} (h : UP r p) (g : UP s q) (hp : 0 < p) : UP (r + s) (p * q) := fun d hd => by
  have hd3 : 0 < d / 3 := by grind
  refine ((((h _ hd3).and (g _ hd3)).and ((div_small (c := r + d / 3)).and (div_small (c := s + d / 3)))).and (sq_small (c := (r + d / 3) * (s + d / 3)) hd3)).mono fun N h0 k => ?_
  obtain ⟨⟨⟨a, b⟩, ⟨c1, _⟩, ⟨c2, _⟩⟩, _, c4⟩ := k
  have hN := npos h0
  have key : (1 + (r + d / 3) / N) * (1 + (s + d / 3) / N) ≤ 1 + (r + s + d) / N := by
    have x := div_le_div (show (r + d / 3) * (s + d / 3) / N ≤ d / 3 by grind) hN
    grind
  have m := pow_le_pow (Rat.mul_nonneg (show 0 ≤ 1 + (r + d / 3) / N by grind) (show 0 ≤ 1 + (s + d / 3) / N by grind)) key N
  rw [mul_pow] at m
  have := mul_le_mul a b (by grind) (pow_nonneg (show 0 ≤ 1 + (s + d / 3) / N by grind) N)
  grind
theorem UP.base {t : Rat} : UP t (1 + t) := fun d hd => by
  refine (div_small (c := t + d)).mono fun N h0 k => ?_
  have hN := npos h0
  have := bern k.1 N
  have e : (N : Rat) * ((t + d) / N) = t + d := by grind
  grind
theorem LO.base {t : Rat} (ht : -1 < t) : LO (t / (1 + t)) (1 + t) := fun d hd => by
  refine (div_small (c := t / (1 + t) - d)).mono fun N h0 k => ?_
  have hN := npos h0
  have hp : 0 < 1 + t := by grind
  have b := bern (x := -((t / (1 + t) - d) / N)) (by grind) N
  have e : (N : Rat) * (-((t / (1 + t) - d) / N)) = -(t / (1 + t) - d) := by grind
  rw [e] at b
  have e2 : 1 - t / (1 + t) = 1 / (1 + t) := by grind
  have m : ((1 + (t / (1 + t) - d) / N) * (1 + -((t / (1 + t) - d) / N))) ^ N ≤ 1 ^ N := by
    refine pow_le_pow (Rat.mul_nonneg (by grind) (by grind)) ?_ N
    have : 0 ≤ ((t / (1 + t) - d) / N) * ((t / (1 + t) - d) / N) := by
      generalize (t / (1 + t) - d) / N = x
      rcases tot 0 x with a | a
      · exact Rat.mul_nonneg a a
      · have := Rat.mul_nonneg (show 0 ≤ -x by grind) (show 0 ≤ -x by grind); grind
    grind
  rw [mul_pow, one_pow] at m
  have hP : 0 ≤ (1 + (t / (1 + t) - d) / N) ^ N := pow_nonneg (by grind) N
  have m2 := Rat.mul_le_mul_of_nonneg_left (show 1 / (1 + t) ≤ (1 + -((t / (1 + t) - d) / N)) ^ N by grind) hP
  generalize (1 + (t / (1 + t) - d) / N) ^ N = P at *
  have m3 := Rat.mul_le_mul_of_nonneg_left (show P * (1 / (1 + t)) ≤ 1 by grind) (show 0 ≤ 1 + t by grind)
  have e4 : (1 + t) * (P * (1 / (1 + t))) = P := by grind
  rw [e4] at m3
  show P ≤ 1 + t
  grind
end Lg

namespace Lg
theorem LO.inv {s q : Rat} (h : LO s q) (hq : 0 < q) : UP (-s) (1 / q) := fun d hd => by
  have hd2 : 0 < d / 2 := by grind
  refine ((h _ hd2).and ((div_small (c := s - d / 2)).and ((div_small (c := -s + d)).and (sq_small (c := (s - d / 2) * (-s + d)) hd2)))).mono fun N h0 k => ?_
  obtain ⟨a, ⟨c1, _⟩, ⟨c2, _⟩, c3, _⟩ := k
  have hN := npos h0
  have key : 1 ≤ (1 + (s - d / 2) / N) * (1 + (-s + d) / N) := by
    have x := div_le_div (show -(d/2) ≤ (s - d / 2) * (-s + d) / N by grind) hN
    grind
  have m := pow_le_pow (show (0 : Rat) ≤ 1 by decide) key N
  rw [mul_pow, one_pow] at m
  have hX : 0 ≤ (1 + (-s + d) / N) ^ N := pow_nonneg (by grind) N
  generalize (1 + (-s + d) / N) ^ N = X at *
  have m2 := Rat.mul_le_mul_of_nonneg_left a hX
  have m3 : 1 ≤ q * X := by grind
  have m4 := Rat.mul_le_mul_of_nonneg_left m3 (show 0 ≤ 1 / q by have := Rat.inv_pos.mpr hq; grind)
  have e : 1 / q * (q * X) = X := by grind
  show 1 / q ≤ X
  grind
theorem UP.inv {s q : Rat} (h : UP s q) (hq : 0 < q) : LO (-s) (1 / q) := fun d hd => by
  have hd2 : 0 < d / 2 := by grind
  refine ((h _ hd2).and ((div_small (c := s + d / 2)).and ((div_small (c := -s - d)).and (sq_small (c := (s + d / 2) * (-s - d)) hd2)))).mono fun N h0 k => ?_
  obtain ⟨a, ⟨c1, _⟩, ⟨c2, _⟩, _, c3⟩ := k
  have hN := npos h0
  have key : (1 + (s + d / 2) / N) * (1 + (-s - d) / N) ≤ 1 := by
    have x := div_le_div (show (s + d / 2) * (-s - d) / N ≤ d / 2 by grind) hN
    grind
  have m := pow_le_pow (Rat.mul_nonneg (show 0 ≤ 1 + (s + d / 2) / N by grind) (show 0 ≤ 1 + (-s - d) / N by grind)) key N
  rw [mul_pow, one_pow] at m
  have hX : 0 ≤ (1 + (-s - d) / N) ^ N := pow_nonneg (by grind) N
  generalize (1 + (-s - d) / N) ^ N = X at *
  have m2 := Rat.mul_le_mul_of_nonneg_left a hX
  have m3 : q * X ≤ 1 := by grind
  have m4 := Rat.mul_le_mul_of_nonneg_left m3 (show 0 ≤ 1 / q by have := Rat.inv_pos.mpr hq; grind)
  have e : 1 / q * (q * X) = X := by grind
  show X ≤ 1 / q
  grind
theorem LO.one : LO 0 1 := by
  have := LO.base (t := 0) (by decide)
  rwa [show (0 : Rat) / (1 + 0) = 0 from by grind, show (1 : Rat) + 0 = 1 from by grind] at this
theorem UP.one : UP 0 1 := by
  have := UP.base (t := 0)
  rwa [show (1 : Rat) + 0 = 1 from by grind] at this
theorem LO.pow {r q : Rat} (h : LO r q) (hq : 0 < q) (n : Nat) : LO (n * r) (q ^ n) := by
  induction n with
  | zero => simpa [Rat.pow_zero] using LO.one
  | succ n ih =>
    have := ih.mul h hq
    rw [Rat.pow_succ]
    refine this.mono ?_ (Rat.le_refl)
    have e : ((n + 1 : Nat) : Rat) = (n : Rat) + 1 := by push_cast; rfl
    grind
theorem UP.pow {r q : Rat} (h : UP r q) (hq : 0 < q) (n : Nat) : UP (n * r) (q ^ n) := by
  induction n with
  | zero => simpa [Rat.pow_zero] using UP.one
  | succ n ih =>
    have := ih.mul h (pow_pos hq n)
    rw [Rat.pow_succ]
    refine this.mono ?_ (Rat.le_refl)
    have e : ((n + 1 : Nat) : Rat) = (n : Rat) + 1 := by push_cast; rfl
    grind

/-- the sum of the first T rows of log (1 + u) -/
noncomputable def P (u : Rat) : Nat → Rat
  | 0 => 0
  | T + 1 => P u T - (-u) ^ (T + 1) / ((T + 1 : Nat) : Rat)
/-- the geometric sum, its derivative -/
noncomputable def G (u : Rat) : Nat → Rat
  | 0 => 0
  | T + 1 => G u T + (-u) ^ T
theorem G_eq (u : Rat) (T : Nat) : G u T * (1 + u) = 1 - (-u) ^ T := by
  induction T with
  | zero => simp [G, Rat.pow_zero]; grind
  | succ T ih => rw [G, Rat.pow_succ]; grind
theorem ratAbs {x : Rat} : 0 ≤ x * x := by
  rcases tot 0 x with a | a
  · exact Rat.mul_nonneg a a
  · have := Rat.mul_nonneg (show 0 ≤ -x by grind) (show 0 ≤ -x by grind); grind
/-- |x| ≤ c, written out -/
noncomputable def Ab (x c : Rat) : Prop := -c ≤ x ∧ x ≤ c
theorem Ab.mul {x y c d : Rat} (h : Ab x c) (g : Ab y d) : Ab (x * y) (c * d) := by
  obtain ⟨h1, h2⟩ := h
  obtain ⟨g1, g2⟩ := g
  have a := Rat.mul_nonneg (show 0 ≤ c - x by grind) (show 0 ≤ d - y by grind)
  have b := Rat.mul_nonneg (show 0 ≤ c + x by grind) (show 0 ≤ d + y by grind)
  have e := Rat.mul_nonneg (show 0 ≤ c - x by grind) (show 0 ≤ d + y by grind)
  have f := Rat.mul_nonneg (show 0 ≤ c + x by grind) (show 0 ≤ d - y by grind)
  constructor <;> grind
theorem Ab.pow {x c : Rat} (h : Ab x c) (n : Nat) : Ab (x ^ n) (c ^ n) := by
  induction n with
  | zero => rw [Rat.pow_zero, Rat.pow_zero]; constructor <;> decide
  | succ n ih => rw [Rat.pow_succ, Rat.pow_succ]; exact ih.mul h
theorem Ab.add {x y c d : Rat} (h : Ab x c) (g : Ab y d) : Ab (x + y) (c + d) := by
  obtain ⟨h1, h2⟩ := h
  obtain ⟨g1, g2⟩ := g
  constructor <;> grind
theorem Ab.neg {x c : Rat} (h : Ab x c) : Ab (-x) c := by
  obtain ⟨h1, h2⟩ := h
  constructor <;> grind
theorem Ab.le {x c d : Rat} (h : Ab x c) (g : c ≤ d) : Ab x d := by
  obtain ⟨h1, h2⟩ := h
  constructor <;> grind
/-- a power's chord against its slope -/
theorem chord {t h : Rat} (ht : Ab t 1) (hs : Ab (t + h) 1) (k : Nat) : Ab ((t + h) ^ (k + 1) - t ^ (k + 1) - ((k + 1 : Nat) : Rat) * h * t ^ k) (((k + 1 : Nat) : Rat) * k * (h * h)) := by
  induction k with
  | zero =>
    simp only [Rat.pow_succ, Rat.pow_zero]
    have e : (t + h - t) - ((0 + 1 : Nat) : Rat) * h * 1 = 0 := by grind
    constructor <;> grind
  | succ k ih =>
    have hk : (0 : Rat) ≤ k := by exact_mod_cast Nat.zero_le k
    have e1 : ((k + 1 : Nat) : Rat) = (k : Rat) + 1 := by push_cast; rfl
    have e2 : ((k + 1 + 1 : Nat) : Rat) = (k : Rat) + 2 := by push_cast; grind
    rw [e1] at ih ⊢
    rw [e2]
    have hh : 0 ≤ h * h := ratAbs
    have m1 := hs.mul ih
    have m2 : Ab (((k : Rat) + 1) * (h * h) * t ^ k) (((k : Rat) + 1) * (h * h)) := by
      have p1 : Ab (t ^ k) 1 := by have := ht.pow k; rwa [one_pow] at this
      have p0 : Ab (((k : Rat) + 1) * (h * h)) (((k : Rat) + 1) * (h * h)) := by
        have := Rat.mul_nonneg (show 0 ≤ (k : Rat) + 1 by grind) hh
        constructor <;> grind
      have := p0.mul p1
      rwa [Rat.mul_one] at this
    have m3 := m1.add m2
    have e3 : (t + h) ^ (k + 1 + 1) - t ^ (k + 1 + 1) - ((k : Rat) + 2) * h * t ^ (k + 1) = (t + h) * ((t + h) ^ (k + 1) - t ^ (k + 1) - ((k : Rat) + 1) * h * t ^ k) + ((k : Rat) + 1) * (h * h) * t ^ k := by
      rw [Rat.pow_succ (t + h) (k + 1), Rat.pow_succ t (k + 1), Rat.pow_succ t k]
      grind
    rw [e3]
    refine m3.le ?_
    have := Rat.mul_nonneg hk hh
    have := Rat.mul_nonneg (Rat.mul_nonneg hk hk) hh
    grind
/-- the rows' sum: its chord against its slope -/
theorem P_chord {t h : Rat} (ht : Ab t 1) (hs : Ab (t + h) 1) (T : Nat) : Ab (P (t + h) T - P t T - h * G t T) (T * T * (h * h)) := by
  induction T with
  | zero => simp only [P, G]; constructor <;> grind
  | succ T ih =>
    have c := chord (t := -t) (h := -h) (by exact ht.neg) (by have := hs.neg; have e : -(t + h) = -t + -h := by grind
                                                              rwa [e] at this) T
    have hT : (0 : Rat) < ((T + 1 : Nat) : Rat) := by exact_mod_cast Nat.succ_pos T
    have hT0 : (0 : Rat) ≤ (T : Rat) := by exact_mod_cast Nat.zero_le T
    have e1 : ((T + 1 : Nat) : Rat) = (T : Rat) + 1 := by push_cast; rfl
    have e0 : -t + -h = -(t + h) := by grind
    rw [e0] at c
    have hh : 0 ≤ h * h := ratAbs
    simp only [P, G]
    generalize (-(t + h)) ^ (T + 1) = X at *
    generalize (-t) ^ (T + 1) = Y at *
    generalize (-t) ^ T = Z at *
    generalize hn : ((T + 1 : Nat) : Rat) = n at *
    have i1 : Ab ((X - Y - n * -h * Z) / n) (T * (h * h)) := by
      obtain ⟨c1, c2⟩ := c
      have d1 := div_le_div c1 hT
      have d2 := div_le_div c2 hT
      have x1 : n * T * (-h * -h) / n = T * (h * h) := by grind
      have x2 : -(n * T * (-h * -h)) / n = -(T * (h * h)) := by grind
      rw [x1] at d2
      rw [x2] at d1
      exact ⟨d1, d2⟩
    have e4 : P (t + h) T - X / n - (P t T - Y / n) - h * (G t T + Z) = (P (t + h) T - P t T - h * G t T) + -((X - Y - n * -h * Z) / n) := by grind
    rw [e4]
    refine (ih.add i1.neg).le ?_
    have h9 := Rat.mul_nonneg hT0 hh
    have e6 : n * n * (h * h) = T * T * (h * h) + 2 * (T * (h * h)) + h * h := by rw [e1]; grind
    rw [e6]
    grind
end Lg

namespace Lg
theorem inv_le {p d : Rat} (hd : 0 < d) (h : d ≤ p) : 1 / p ≤ 1 / d := by
  have hp : 0 < p := by grind
  have a := Rat.mul_nonneg (show 0 ≤ p - d by grind) (show 0 ≤ (1 / p) * (1 / d) by
    have := Rat.inv_pos.mpr hp; have := Rat.inv_pos.mpr hd
    exact Rat.mul_nonneg (by grind) (by grind))
  have e : (p - d) * ((1 / p) * (1 / d)) = 1 / d - 1 / p := by grind
  grind
theorem inv_pos {p : Rat} (hp : 0 < p) : 0 < 1 / p := by have := Rat.inv_pos.mpr hp; grind
theorem Ab.inv {p d : Rat} (hd : 0 < d) (h : d ≤ p) : Ab (1 / p) (1 / d) := by
  have := inv_le hd h
  have := inv_pos (show 0 < p by grind)
  constructor <;> grind
theorem Ab.nn {x c : Rat} (h : Ab x c) : 0 ≤ c := by obtain ⟨a, b⟩ := h; grind
/-- one step of the way: what the rows' sum gains against the gain of the logarithm -/
theorem P_step {t h k c : Rat} (hc : c < 1) (ht : Ab t c) (hs : Ab (t + h) c) (hk : Ab h k) (T : Nat) :
    Ab (P (t + h) T - P t T - h / (1 + t)) (k * (c ^ T / (1 - c)) + T * T * (k * k)) ∧ Ab (h / (1 + t) - h / (1 + (t + h))) (k * k * (1 / (1 - c) * (1 / (1 - c)))) := by
  have h1 : 0 < 1 - c := by grind
  have c1 := P_chord (ht.le (by grind)) (hs.le (by grind)) T
  have hT0 : (0 : Rat) ≤ T * T := by
    have : (0 : Rat) ≤ (T : Rat) := by exact_mod_cast Nat.zero_le T
    exact Rat.mul_nonneg this this
  have p1 : 1 - c ≤ 1 + t := by obtain ⟨a, b⟩ := ht; grind
  have p2 : 1 - c ≤ 1 + (t + h) := by obtain ⟨a, b⟩ := hs; grind
  have i1 := Ab.inv h1 p1
  have i2 := Ab.inv h1 p2
  have g := G_eq t T
  have g2 : G t T = (1 - (-t) ^ T) * (1 / (1 + t)) := by grind
  constructor
  · have a := (hk.mul (ht.neg.pow T)).mul i1
    have hh := hk.mul hk
    have b : Ab (T * T * (h * h)) (T * T * (k * k)) := by
      have : Ab ((T : Rat) * T) (T * T) := ⟨by grind, by grind⟩
      exact this.mul hh
    have hh0 : 0 ≤ h * h := ratAbs
    have e : P (t + h) T - P t T - h / (1 + t) = (P (t + h) T - P t T - h * G t T) + -(h * (-t) ^ T * (1 / (1 + t))) := by rw [g2]; grind
    rw [e]
    have c2 : Ab (P (t + h) T - P t T - h * G t T) (T * T * (k * k)) := by
      refine c1.le ?_
      exact b.2
    refine (c2.add a.neg).le ?_
    grind
  · have a := (hk.mul hk).mul (i1.mul i2)
    have e : h / (1 + t) - h / (1 + (t + h)) = h * h * (1 / (1 + t) * (1 / (1 + (t + h)))) := by
      have x1 : (1 + t) ≠ 0 := by grind
      have x2 : (1 + (t + h)) ≠ 0 := by grind
      grind
    rw [e]
    exact a
theorem LO.step {t h : Rat} (h1 : 0 < 1 + t) (h2 : 0 < 1 + (t + h)) {r : Rat} (g : LO r (1 + t)) : LO (r + h / (1 + (t + h))) (1 + (t + h)) := by
  have b := LO.base (t := h / (1 + t)) (by
    have e : h / (1 + t) + 1 = (1 + (t + h)) * (1 / (1 + t)) := by grind
    have := Rat.mul_pos h2 (inv_pos h1)
    grind)
  have e1 : 1 + h / (1 + t) = (1 + (t + h)) * (1 / (1 + t)) := by grind
  have hp := Rat.mul_pos h2 (inv_pos h1)
  have m := g.mul b (by grind)
  refine m.mono ?_ ?_
  · have : h / (1 + t) / (1 + h / (1 + t)) = h / (1 + (t + h)) := by
      rw [e1]
      have x1 : (1 + t) ≠ 0 := by grind
      have x2 : (1 + (t + h)) ≠ 0 := by grind
      grind
    grind
  · have : (1 + t) * (1 + h / (1 + t)) = 1 + (t + h) := by
      have x1 : (1 + t) ≠ 0 := by grind
      grind
    grind
theorem UP.step {t h : Rat} (h1 : 0 < 1 + t) {r : Rat} (g : UP r (1 + t)) : UP (r + h / (1 + t)) (1 + (t + h)) := by
  have b := UP.base (t := h / (1 + t))
  have m := g.mul b h1
  refine m.mono (Rat.le_refl) ?_
  have : (1 + t) * (1 + h / (1 + t)) = 1 + (t + h) := by
    have x1 : (1 + t) ≠ 0 := by grind
    grind
  grind
theorem P_zero (T : Nat) : P 0 T = 0 := by
  induction T with
  | zero => rfl
  | succ T ih => rw [P, ih, Rat.pow_succ]; grind
theorem way {u c : Rat} (hc : c < 1) (hu : Ab u c) (T m : Nat) (hm : 0 < m) : ∀ i : Nat, i ≤ m →
    LO (P (i * (u / m)) T - i * (c / m * (c ^ T / (1 - c)) + T * T * (c / m * (c / m)) + c / m * (c / m) * (1 / (1 - c) * (1 / (1 - c))))) (1 + i * (u / m)) ∧
    UP (P (i * (u / m)) T + i * (c / m * (c ^ T / (1 - c)) + T * T * (c / m * (c / m)) + c / m * (c / m) * (1 / (1 - c) * (1 / (1 - c))))) (1 + i * (u / m)) := by
  have hm' := npos hm
  have hk : Ab (u / m) (c / m) := by
    obtain ⟨a, b⟩ := hu
    have := div_le_div a hm'
    have := div_le_div b hm'
    constructor <;> grind
  have inside : ∀ i : Nat, i ≤ m → Ab (i * (u / m)) c := by
    intro i hi
    have h1 : (i : Rat) ≤ m := Rat.natCast_le_natCast.mpr hi
    have h0 : (0 : Rat) ≤ i := by exact_mod_cast Nat.zero_le i
    have a : Ab (i : Rat) (m : Rat) := ⟨by grind, h1⟩
    have := a.mul hk
    have e : (m : Rat) * (c / m) = c := by grind
    rwa [e] at this
  intro i
  induction i with
  | zero =>
    intro _
    have e : ((0 : Nat) : Rat) * (u / m) = 0 := by grind
    rw [e, P_zero]
    have e2 : (1 : Rat) + 0 = 1 := by grind
    rw [e2]
    constructor
    · refine LO.one.mono ?_ (Rat.le_refl); grind
    · refine UP.one.mono ?_ (Rat.le_refl); grind
  | succ i ih =>
    intro hi
    obtain ⟨l, p⟩ := ih (by lia)
    have ht := inside i (by lia)
    have hs := inside (i + 1) hi
    have e1 : ((i + 1 : Nat) : Rat) = (i : Rat) + 1 := by push_cast; rfl
    have e2 : ((i + 1 : Nat) : Rat) * (u / m) = i * (u / m) + u / m := by rw [e1]; grind
    rw [e2] at hs ⊢
    rw [e1]
    generalize (i : Rat) * (u / m) = t at *
    generalize u / m = h at *
    have hp1 : 0 < 1 + t := by obtain ⟨a, b⟩ := ht; grind
    have hp2 : 0 < 1 + (t + h) := by obtain ⟨a, b⟩ := hs; grind
    obtain ⟨⟨s1, s2⟩, ⟨s3, s4⟩⟩ := P_step hc ht hs hk T
    have n1 : 0 ≤ c / m * (c / m) * (1 / (1 - c) * (1 / (1 - c))) := by
      exact (hk.mul hk).nn |> fun x => Rat.mul_nonneg x ratAbs
    constructor
    · refine (l.step hp1 hp2).mono ?_ (Rat.le_refl)
      grind
    · refine (p.step hp1).mono ?_ (Rat.le_refl)
      grind
theorem lim_aux {C e : Rat} (he : 0 < e) : ∃ m : Nat, 0 < m ∧ C / m ≤ e := by
  obtain ⟨N, h0, h⟩ := (sq_small (c := C) he).some
  exact ⟨N, h0, h.2⟩
theorem LO.rows {u c : Rat} (hc : c < 1) (hu : Ab u c) (T : Nat) : LO (P u T - c ^ (T + 1) / (1 - c)) (1 + u) := by
  refine LO.lim fun e he => ?_
  obtain ⟨m, hm, h⟩ := lim_aux (C := c * c * (T * T + (1 / (1 - c) * (1 / (1 - c))))) he
  have w := (way hc hu T m hm m (Nat.le_refl m)).1
  have hm' := npos hm
  have e1 : (m : Rat) * (u / m) = u := by grind
  rw [e1] at w
  refine w.mono ?_ (Rat.le_refl)
  have e2 : (m : Rat) * (c / m * (c ^ T / (1 - c)) + T * T * (c / m * (c / m)) + c / m * (c / m) * (1 / (1 - c) * (1 / (1 - c)))) = c * (c ^ T / (1 - c)) + c * c * (T * T + (1 / (1 - c) * (1 / (1 - c)))) / m := by
    have : (m : Rat) * (c / m) = c := by grind
    grind
  have e3 : c ^ (T + 1) / (1 - c) = c * (c ^ T / (1 - c)) := by rw [Rat.pow_succ]; grind
  rw [e2, e3]
  grind
theorem UP.rows {u c : Rat} (hc : c < 1) (hu : Ab u c) (T : Nat) : UP (P u T + c ^ (T + 1) / (1 - c)) (1 + u) := by
  refine UP.lim fun e he => ?_
  obtain ⟨m, hm, h⟩ := lim_aux (C := c * c * (T * T + (1 / (1 - c) * (1 / (1 - c))))) he
  have w := (way hc hu T m hm m (Nat.le_refl m)).2
  have hm' := npos hm
  have e1 : (m : Rat) * (u / m) = u := by grind
  rw [e1] at w
  refine w.mono ?_ (Rat.le_refl)
  have e2 : (m : Rat) * (c / m * (c ^ T / (1 - c)) + T * T * (c / m * (c / m)) + c / m * (c / m) * (1 / (1 - c) * (1 / (1 - c)))) = c * (c ^ T / (1 - c)) + c * c * (T * T + (1 / (1 - c) * (1 / (1 - c)))) / m := by
    have : (m : Rat) * (c / m) = c := by grind
    grind
  have e3 : c ^ (T + 1) / (1 - c) = c * (c ^ T / (1 - c)) := by rw [Rat.pow_succ]; grind
  rw [e2, e3]
  grind
end Lg

namespace Lg
/-- powers of 9/11 (or of anything up to it) become small -/
theorem pow_small {c : Rat} (h0 : 0 ≤ c) (h1 : c ≤ 9 / 11) {e : Rat} (he : 0 < e) : ∃ n0 : Nat, ∀ n : Nat, n0 ≤ n → c ^ n ≤ e := by
  obtain ⟨m, hm⟩ := arch (1 / e * (9 / 2))
  refine ⟨m, fun n hn => ?_⟩
  have a := pow_le_pow h0 h1 n
  have b := bern (x := 2 / 9) (by grind) n
  have e1 : (1 + 2 / 9 : Rat) = 11 / 9 := by grind
  rw [e1] at b
  have e2 : (9 / 11 : Rat) ^ n * (11 / 9) ^ n = 1 := by rw [← mul_pow]; rw [show (9 / 11 : Rat) * (11 / 9) = 1 by grind, one_pow]
  have hmn : (m : Rat) ≤ n := Rat.natCast_le_natCast.mpr hn
  have p1 : (0 : Rat) ≤ (9 / 11) ^ n := pow_nonneg (by grind) n
  generalize (9 / 11 : Rat) ^ n = X at *
  generalize (11 / 9 : Rat) ^ n = Y at *
  have c1 : 1 / e ≤ Y := by grind
  have c2 := Rat.mul_le_mul_of_nonneg_left c1 p1
  have c3 := Rat.mul_le_mul_of_nonneg_left (show X * (1 / e) ≤ 1 by grind) (show 0 ≤ e by grind)
  have e4 : e * (X * (1 / e)) = X := by grind
  grind
/-- half of log ((1 + z) / (1 - z)), n rows -/
noncomputable def A (z : Rat) : Nat → Rat
  | 0 => 0
  | n + 1 => A z n + z ^ (2 * n + 1) / ((2 * n + 1 : Nat) : Rat)
theorem neg_pow_odd (z : Rat) (n : Nat) : (-z) ^ (2 * n + 1) = -(z ^ (2 * n + 1)) := by
  induction n with
  | zero => simp [Rat.pow_succ, Rat.pow_zero]
  | succ n ih =>
    have e : 2 * (n + 1) + 1 = 2 * n + 1 + 1 + 1 := by lia
    rw [e, Rat.pow_succ (-z) (2 * n + 1 + 1), Rat.pow_succ (-z) (2 * n + 1), ih, Rat.pow_succ z (2 * n + 1 + 1), Rat.pow_succ z (2 * n + 1)]
    grind
theorem neg_pow_even (z : Rat) (n : Nat) : (-z) ^ (2 * n + 2) = z ^ (2 * n + 2) := by
  rw [Rat.pow_succ, neg_pow_odd, Rat.pow_succ z]
  grind
theorem A_eq (z : Rat) (n : Nat) : P z (2 * n) - P (-z) (2 * n) = 2 * A z n := by
  induction n with
  | zero => simp [P, A]; grind
  | succ n ih =>
    have e : 2 * (n + 1) = 2 * n + 1 + 1 := by lia
    rw [e, P, P, P, P, A]
    have e2 : -(-z) = z := by grind
    rw [e2, neg_pow_odd, neg_pow_even]
    grind
theorem rows2 {z : Rat} (h0 : 0 ≤ z) (h1 : z ≤ 9 / 11) (n : Nat) :
    LO (2 * A z n - 11 * (9 / 11) ^ (2 * n + 1)) ((1 + z) * (1 / (1 - z))) ∧ UP (2 * A z n + 11 * (9 / 11) ^ (2 * n + 1)) ((1 + z) * (1 / (1 - z))) := by
  have hz : Ab z (9 / 11) := ⟨by grind, h1⟩
  have l1 := LO.rows (by grind) hz (2 * n)
  have u1 := UP.rows (by grind) hz (2 * n)
  have l2 := LO.rows (by grind) hz.neg (2 * n)
  have u2 := UP.rows (by grind) hz.neg (2 * n)
  have hp : 0 < 1 - z := by grind
  have e1 : 1 + -z = 1 - z := by grind
  rw [e1] at l2 u2
  have a := A_eq z n
  have hi := inv_pos hp
  generalize (9 / 11 : Rat) ^ (2 * n + 1) = X at *
  constructor
  · refine (l1.mul (u2.inv hp) hi).mono ?_ (Rat.le_refl)
    grind
  · refine (u1.mul (l2.inv hp) (by grind)).mono ?_ (Rat.le_refl)
    grind
theorem A_mono {z : Rat} (h0 : 0 ≤ z) (n i : Nat) : A z n ≤ A z (n + i) := by
  induction i with
  | zero => exact Rat.le_refl
  | succ i ih =>
    rw [← Nat.add_assoc, A]
    have := Rat.mul_nonneg (pow_nonneg h0 (2 * (n + i) + 1)) (show 0 ≤ 1 / ((2 * (n + i) + 1 : Nat) : Rat) by have := inv_pos (npos (show 0 < 2 * (n + i) + 1 by lia)); grind)
    grind
noncomputable def tail (z : Rat) (n : Nat) : Rat := z ^ (2 * n + 1) * (1 / ((2 * n + 1 : Nat) : Rat)) * (1 / (1 - z * z))
theorem A_tail {z : Rat} (h0 : 0 ≤ z) (h1 : z ≤ 9 / 11) (n i : Nat) : A z (n + i) + tail z (n + i) ≤ A z n + tail z n := by
  induction i with
  | zero => exact Rat.le_refl
  | succ i ih =>
    refine Rat.le_trans ?_ ih
    rw [← Nat.add_assoc]
    generalize n + i = m
    unfold tail
    rw [A]
    have e : 2 * (m + 1) + 1 = 2 * m + 1 + 1 + 1 := by lia
    rw [e, Rat.pow_succ z (2 * m + 1 + 1), Rat.pow_succ z (2 * m + 1)]
    have hX : 0 ≤ z ^ (2 * m + 1) := pow_nonneg h0 _
    have hk := npos (show 0 < 2 * m + 1 by lia)
    have hk2 : ((2 * m + 1 : Nat) : Rat) ≤ ((2 * m + 1 + 1 + 1 : Nat) : Rat) := Rat.natCast_le_natCast.mpr (by lia)
    have i1 := inv_le hk hk2
    generalize z ^ (2 * m + 1) = X at *
    have hzz : z * z ≤ 9 / 11 * (9 / 11) := mul_le_mul h1 h1 h0 (by grind)
    have hp : 0 < 1 - z * z := by grind
    have hi := inv_pos hp
    have n1 := Rat.mul_nonneg (Rat.mul_nonneg (Rat.mul_nonneg hX (Rat.mul_nonneg h0 h0)) (show 0 ≤ 1 / (1 - z * z) by grind)) (show 0 ≤ 1 / ((2 * m + 1 : Nat) : Rat) - 1 / ((2 * m + 1 + 1 + 1 : Nat) : Rat) by grind)
    generalize 1 / ((2 * m + 1 + 1 + 1 : Nat) : Rat) = k2 at *
    have ek : X / ((2 * m + 1 : Nat) : Rat) = X * (1 / ((2 * m + 1 : Nat) : Rat)) := by grind
    rw [ek]
    generalize 1 / ((2 * m + 1 : Nat) : Rat) = k1 at *
    have ep : 1 + (z * z) * (1 / (1 - z * z)) = 1 / (1 - z * z) := by grind
    generalize 1 / (1 - z * z) = w at *
    have e5 : X * k1 * w = X * k1 * (1 + z * z * w) := by rw [ep]
    rw [e5]
    grind
theorem LO.A {z : Rat} (h0 : 0 ≤ z) (h1 : z ≤ 9 / 11) (n : Nat) : LO (2 * A z n) ((1 + z) * (1 / (1 - z))) := by
  refine LO.lim fun e he => ?_
  obtain ⟨m, hm⟩ := pow_small (c := 9 / 11) (by grind) (by grind) (e := e / 11) (by grind)
  have w := (rows2 h0 h1 (n + m)).1
  refine w.mono ?_ (Rat.le_refl)
  have := hm (2 * (n + m) + 1) (by lia)
  have := A_mono h0 n m
  grind
theorem tail_nonneg {z : Rat} (h0 : 0 ≤ z) (h1 : z ≤ 9 / 11) (n : Nat) : 0 ≤ tail z n := by
  have hzz : z * z ≤ 9 / 11 * (9 / 11) := mul_le_mul h1 h1 h0 (by grind)
  have hi := inv_pos (show 0 < 1 - z * z by grind)
  have := inv_pos (npos (show 0 < 2 * n + 1 by lia))
  exact Rat.mul_nonneg (Rat.mul_nonneg (pow_nonneg h0 _) (by grind)) (by grind)
theorem UP.A {z : Rat} (h0 : 0 ≤ z) (h1 : z ≤ 9 / 11) (n : Nat) : UP (2 * (A z n + tail z n)) ((1 + z) * (1 / (1 - z))) := by
  refine UP.lim fun e he => ?_
  obtain ⟨m, hm⟩ := pow_small (c := 9 / 11) (by grind) (by grind) (e := e / 11) (by grind)
  have w := (rows2 h0 h1 (n + m)).2
  refine w.mono ?_ (Rat.le_refl)
  have := hm (2 * (n + m) + 1) (by lia)
  have := A_tail h0 h1 n m
  have := tail_nonneg h0 h1 (n + m)
  grind
end Lg

namespace Lg
/-- the rows of the law's own logarithm -/
noncomputable def pw (a b unit : Int) : Nat → Int
  | 0 => (unit * (a - b)).fdiv (a + b)
  | j + 1 => (pw a b unit j * (a - b) ^ 2).fdiv ((a + b) ^ 2)
noncomputable def lows (a b unit : Int) : Nat → Int
  | 0 => 0
  | j + 1 => lows a b unit j + (pw a b unit j).fdiv (2 * j + 1)

theorem fdiv_b {a b : Int} (hb : 0 < b) : b * a.fdiv b ≤ a ∧ a ≤ b * a.fdiv b + (b - 1) := by
  rw [Int.fdiv_eq_ediv_of_nonneg _ (by lia)]
  have h1 := Int.mul_ediv_add_emod a b
  have h2 := Int.emod_nonneg a (show b ≠ 0 by lia)
  have h3 := Int.emod_lt_of_pos a hb
  lia
theorem cle {a b : Int} (h : a ≤ b) : (a : Rat) ≤ (b : Rat) := Rat.intCast_le_intCast.mpr h
theorem clt {a b : Int} (h : a < b) : (a : Rat) < (b : Rat) := Rat.intCast_lt_intCast.mpr h
theorem fdiv_r {a b : Int} (hb : 0 < b) : (b : Rat) * (a.fdiv b : Int) ≤ a ∧ (a : Rat) ≤ b * (a.fdiv b : Int) + (b - 1) := by
  obtain ⟨h1, h2⟩ := fdiv_b (a := a) hb
  have := cle h1
  have := cle h2
  push_cast at *
  constructor <;> grind
theorem le_of_mul {b x y : Rat} (hb : 0 < b) (h : b * x ≤ b * y) : x ≤ y := by
  rcases tot x y with a | a
  · exact a
  · have m := Rat.mul_le_mul_of_nonneg_left a (show 0 ≤ b by grind)
    have e : b * x = b * y := by grind
    have : x = y := by
      have i := inv_pos hb
      have : 1 / b * (b * x) = 1 / b * (b * y) := by rw [e]
      grind
    grind
section
variable {a b unit : Int} (hb : 0 < b) (hab : b ≤ a) (h10 : a ≤ 10 * b) (hu : 0 < unit)
include hb hab h10 hu
/-- z of the law -/
theorem z_facts : (0 : Rat) ≤ ((a - b : Int) : Rat) / ((a + b : Int) : Rat) ∧ ((a - b : Int) : Rat) / ((a + b : Int) : Rat) ≤ 9 / 11 ∧ (1 + ((a - b : Int) : Rat) / ((a + b : Int) : Rat)) * (1 / (1 - ((a - b : Int) : Rat) / ((a + b : Int) : Rat))) = (a : Rat) / b := by
  have h1 : (0 : Rat) < b := clt (a := 0) hb
  have h2 := cle hab
  have h3 := cle h10
  push_cast at *
  have hs : (0 : Rat) < (a : Rat) + b := by grind
  have hi := inv_pos hs
  refine ⟨?_, ?_, ?_⟩
  · have := Rat.mul_nonneg (show (0 : Rat) ≤ (a : Rat) - b by grind) (show 0 ≤ 1 / ((a : Rat) + b) by grind)
    grind
  · refine le_of_mul hs ?_
    have : ((a : Rat) + b) * (((a : Rat) - b) / ((a : Rat) + b)) = (a : Rat) - b := by grind
    grind
  · have x1 : ((a : Rat) + b) ≠ 0 := by grind
    have x2 : 1 - ((a : Rat) - b) / ((a : Rat) + b) = 2 * b / ((a : Rat) + b) := by grind
    have x3 : 1 + ((a : Rat) - b) / ((a : Rat) + b) = 2 * a / ((a : Rat) + b) := by grind
    rw [x2, x3]
    grind
theorem pw_bounds (j : Nat) : ((pw a b unit j : Int) : Rat) ≤ unit * (((a - b : Int) : Rat) / ((a + b : Int) : Rat)) ^ (2 * j + 1) ∧ unit * (((a - b : Int) : Rat) / ((a + b : Int) : Rat)) ^ (2 * j + 1) ≤ (pw a b unit j : Int) + (if j = 0 then 1 else 121 / 40) := by
  obtain ⟨z0, z1, _⟩ := z_facts hb hab h10 hu
  have hs : 0 < a + b := by lia
  have hsr := clt (a := 0) hs
  generalize hz : ((a - b : Int) : Rat) / ((a + b : Int) : Rat) = z at *
  have ez : ((a + b : Int) : Rat) * z = ((a - b : Int) : Rat) := by rw [← hz]; push_cast at *; grind
  induction j with
  | zero =>
    have f := fdiv_r (a := unit * (a - b)) hs
    rw [pw]
    simp only [Nat.mul_zero, Nat.zero_add, if_true]
    have e1 : (z : Rat) ^ 1 = z := by rw [Rat.pow_succ, Rat.pow_zero]; grind
    rw [e1]
    generalize ((unit * (a - b)).fdiv (a + b) : Int) = q at *
    have e2 : ((unit * (a - b) : Int) : Rat) = unit * (((a + b : Int) : Rat) * z) := by rw [ez]; push_cast; rfl
    rw [e2] at f
    generalize ((a + b : Int) : Rat) = s at *
    constructor
    · refine le_of_mul hsr ?_; grind
    · refine le_of_mul hsr ?_; grind
  | succ j ih =>
    have hs2 : 0 < (a + b) ^ 2 := by rw [Int.pow_succ, Int.pow_succ, Int.pow_zero, Int.one_mul]; exact Int.mul_pos hs hs
    have f := fdiv_r (a := pw a b unit j * (a - b) ^ 2) hs2
    have e0 : 2 * (j + 1) + 1 = 2 * j + 1 + 1 + 1 := by lia
    rw [pw, e0, Rat.pow_succ z (2 * j + 1 + 1), Rat.pow_succ z (2 * j + 1)]
    generalize (pw a b unit j * (a - b) ^ 2).fdiv ((a + b) ^ 2) = q at *
    generalize z ^ (2 * j + 1) = X at *
    generalize pw a b unit j = p at *
    have e2 : ((p * (a - b) ^ 2 : Int) : Rat) = p * ((((a + b : Int) : Rat) * z) * (((a + b : Int) : Rat) * z)) := by
      rw [ez]; push_cast; grind
    have e3 : (((a + b) ^ 2 : Int) : Rat) = ((a + b : Int) : Rat) * ((a + b : Int) : Rat) := by push_cast; grind
    rw [e2, e3] at f
    have hss := Rat.mul_pos hsr hsr
    rw [if_neg (by lia)]
    generalize ((a + b : Int) : Rat) = s at *
    have hzz : z * z ≤ 81 / 121 := by have := mul_le_mul z1 z1 z0 (show (0:Rat) ≤ 9/11 by grind); grind
    have hz0 := Rat.mul_nonneg z0 z0
    have ih2 : unit * X ≤ (p : Rat) + 121 / 40 := by
      obtain ⟨_, i2⟩ := ih
      split at i2 <;> grind
    have m1 := Rat.mul_le_mul_of_nonneg_left ih.1 hz0
    have m2 := Rat.mul_le_mul_of_nonneg_left ih2 hz0
    constructor
    · refine le_of_mul hss ?_
      have m3 := Rat.mul_le_mul_of_nonneg_left m1 (show 0 ≤ s * s by grind)
      grind
    · have m4 : p * (z * z) ≤ q + 1 := by
        refine le_of_mul hss ?_
        grind
      grind
theorem lows_bounds (n : Nat) : ((lows a b unit n : Int) : Rat) ≤ unit * A (((a - b : Int) : Rat) / ((a + b : Int) : Rat)) n ∧ unit * A (((a - b : Int) : Rat) / ((a + b : Int) : Rat)) n ≤ (lows a b unit n : Int) + n * (121 / 40) := by
  induction n with
  | zero => simp only [lows, A]; constructor <;> grind
  | succ n ih =>
    have hk : (0 : Int) < 2 * n + 1 := by lia
    have f := fdiv_r (a := pw a b unit n) hk
    have p := pw_bounds hb hab h10 hu n
    have hkr := clt (a := 0) hk
    have ek : ((2 * n + 1 : Nat) : Rat) = (2 * n + 1 : Rat) := by push_cast; rfl
    have en : ((n + 1 : Nat) : Rat) = (n : Rat) + 1 := by push_cast; rfl
    simp only [lows, A]
    generalize (pw a b unit n).fdiv (2 * n + 1) = q at *
    generalize (((a - b : Int) : Rat) / ((a + b : Int) : Rat)) ^ (2 * n + 1) = X at *
    generalize A (((a - b : Int) : Rat) / ((a + b : Int) : Rat)) n = AA at *
    rw [ek, en]
    have p2 : unit * X ≤ (pw a b unit n : Int) + 121 / 40 := by
      obtain ⟨_, i2⟩ := p
      split at i2 <;> grind
    have hk1 : (0 : Rat) ≤ (n : Rat) := by exact_mod_cast Nat.zero_le n
    push_cast at *
    have w1 : (q : Rat) ≤ unit * (X / (2 * n + 1)) := by
      refine le_of_mul hkr ?_
      have : (2 * (n : Rat) + 1) * (unit * (X / (2 * n + 1))) = unit * X := by grind
      grind
    have w2 : unit * (X / (2 * n + 1)) ≤ q + 121 / 40 := by
      refine le_of_mul hkr ?_
      have : (2 * (n : Rat) + 1) * (unit * (X / (2 * n + 1))) = unit * X := by grind
      grind
    constructor <;> grind
/-- the law's own bounds hold -/
theorem law_LO (n : Nat) : LO ((2 * lows a b unit n : Int) / (unit : Rat)) ((a : Rat) / b) := by
  obtain ⟨z0, z1, ez⟩ := z_facts hb hab h10 hu
  have l := LO.A z0 z1 n
  rw [ez] at l
  refine l.mono ?_ (Rat.le_refl)
  have h := (lows_bounds hb hab h10 hu n).1
  have hur := clt (a := 0) hu
  refine le_of_mul hur ?_
  push_cast at *
  have : (unit : Rat) * (2 * (lows a b unit n : Rat) / unit) = 2 * (lows a b unit n : Rat) := by grind
  grind
theorem law_UP (n : Nat) (hn : pw a b unit n ≤ 0) : UP ((2 * lows a b unit n + 4 * (2 * n + 1) + 4 : Int) / (unit : Rat)) ((a : Rat) / b) := by
  obtain ⟨z0, z1, ez⟩ := z_facts hb hab h10 hu
  have l := UP.A z0 z1 n
  rw [ez] at l
  refine l.mono ?_ (Rat.le_refl)
  have h := (lows_bounds hb hab h10 hu n).2
  have p := (pw_bounds hb hab h10 hu n).2
  have hn' := cle hn
  have hur := clt (a := 0) hu
  refine le_of_mul hur ?_
  have e : (unit : Rat) * (((2 * lows a b unit n + 4 * (2 * n + 1) + 4 : Int) : Rat) / unit) = ((2 * lows a b unit n + 4 * (2 * n + 1) + 4 : Int) : Rat) := by grind
  rw [e]
  unfold tail
  generalize ((a - b : Int) : Rat) / ((a + b : Int) : Rat) = z at *
  have hzz : z * z ≤ 81 / 121 := by have := mul_le_mul z1 z1 z0 (show (0:Rat) ≤ 9/11 by grind); grind
  have i1 := inv_le (show (0 : Rat) < 40 / 121 by grind) (show 40 / 121 ≤ 1 - z * z by grind)
  have i0 := inv_pos (show 0 < 1 - z * z by grind)
  have hX := pow_nonneg z0 (2 * n + 1)
  have hk := npos (show 0 < 2 * n + 1 by lia)
  have hkI := inv_pos hk
  generalize A z n = AA at *
  generalize z ^ (2 * n + 1) = X at *
  generalize 1 / (1 - z * z) = w at *
  have hn0 : (0 : Rat) ≤ (n : Rat) := by exact_mod_cast Nat.zero_le n
  have t : unit * (X * (1 / ((2 * n + 1 : Nat) : Rat)) * w) ≤ 4 := by
    have hw : w ≤ 121 / 40 := by grind
    have hUX := Rat.mul_nonneg (show (0:Rat) ≤ unit by grind) hX
    by_cases h0 : n = 0
    · subst h0
      simp only [if_true, Nat.mul_zero, Nat.zero_add] at p ⊢
      have : (unit : Rat) * X ≤ 1 := by push_cast at hn'; grind
      have m := mul_le_mul this hw hUX (by grind)
      have e1 : (1 : Rat) / ((1 : Nat) : Rat) = 1 := by push_cast; grind
      rw [e1]
      grind
    · rw [if_neg h0] at p
      have : (unit : Rat) * X ≤ 121 / 40 := by push_cast at hn'; grind
      have m := mul_le_mul this hw hUX (by grind)
      have h3 : (3 : Rat) ≤ ((2 * n + 1 : Nat) : Rat) := by
        have : ((3 : Nat) : Rat) ≤ ((2 * n + 1 : Nat) : Rat) := Rat.natCast_le_natCast.mpr (by lia)
        push_cast at *
        grind
      have i3 := inv_le (show (0 : Rat) < 3 by grind) h3
      generalize 1 / ((2 * n + 1 : Nat) : Rat) = k at *
      have hUXw : 0 ≤ unit * X * w := Rat.mul_nonneg hUX (by grind)
      have m2 := mul_le_mul m i3 hUXw (by grind)
      grind
  push_cast
  grind
end
end Lg

namespace Lg
/-- what one halving of _ilog knows: K is 2 ** R -/
structure Halving (M K y ys s z : Int) : Prop where
  hM : 0 < M
  hK : 0 < K
  y1 : -K ≤ 2 * (K * ys - y)
  y2 : 2 * (K * ys - y) ≤ K
  s0 : 1 ≤ s
  s1 : s * s - s < M * (M + ys)
  s2 : M * (M + ys) ≤ s * s + s
  z1 : -(M + s) ≤ 2 * ((M + s) * z - 2 * (M * y))
  z2 : 2 * ((M + s) * z - 2 * (M * y)) ≤ M + s

theorem aux_b2 {m h ph kr th ee Di k : Rat} (mh : m * h = 1) : (2 * m * ph + 2 * kr * th - ee) * Di * k * h / 2 = h * ((ph + kr * th * h) * k * m * Di - ee * k * Di / 2) := by
  have e : h * ((ph + kr * th * h) * k * m * Di - ee * k * Di / 2) = h * m * ph * k * Di + (m * h) * (kr * th * h * k * Di) - ee * k * Di * h / 2 := by grind
  rw [e, mh]
  grind
/-- one halving in rationals: v = 1 + y / (K M), a = 1 + z / (2 K M), b = s / M -/
theorem Halving.rat {M K y ys s z : Int} (H : Halving M K y ys s z) {h k v a b : Rat} (eh : h = 1 / M) (ek : k = 1 / K) (ev : v = 1 + y * k * h) (ea : a = 1 + z * k * h / 2) (eb : b = s * h) : ∃ q e : Rat,
    (v = a * a + h * ((a - 1) * q - e * (a + b))) ∧ (b = a + h * (q - e)) ∧ Ab e (k / 4) ∧
    Ab (q * (1 + b)) (1 / 2 + b) ∧ (K * ys = y → Ab (q * (1 + b)) b) := by
  have hM := clt (a := 0) H.hM
  have hK := clt (a := 0) H.hK
  have hs := cle H.s0
  have y1 := cle H.y1
  have y2 := cle H.y2
  have s1 := clt H.s1
  have s2 := cle H.s2
  have z1 := cle H.z1
  have z2 := cle H.z2
  push_cast at *
  have hys : (K * ys = y → ((K : Rat) * ys - y = 0)) := by
    intro h
    have : ((K * ys : Int) : Rat) = ((y : Int) : Rat) := by rw [h]
    push_cast at this
    grind
  have hmI : 0 < h := by rw [eh]; exact inv_pos hM
  have hkI : 0 < k := by rw [ek]; exact inv_pos hK
  have mh : (M : Rat) * h = 1 := by grind
  have kk : (K : Rat) * k = 1 := by grind
  clear eh ek
  generalize (M : Rat) = m at *
  generalize (K : Rat) = kr at *
  generalize (y : Rat) = Y at *
  generalize (ys : Rat) = Ys at *
  generalize (s : Rat) = S at *
  generalize (z : Rat) = Z at *
  have hD : 0 < m + S := by grind
  have hDI := inv_pos hD
  have DD : (m + S) * (1 / (m + S)) = 1 := by grind
  generalize 1 / (m + S) = Di at *
  generalize hph : kr * Ys - Y = ph at *
  generalize hth : S * S - m * (m + Ys) = th at *
  generalize hee : (m + S) * Z - 2 * (m * Y) = ee at *
  have key2 : (2 * kr * (S - m) - Z) * (m + S) = 2 * m * ph + 2 * kr * th - ee := by
    rw [← hph, ← hth, ← hee]; grind
  have b0 : 2 * kr * (S - m) - Z = (2 * m * ph + 2 * kr * th - ee) * Di := by
    have : (2 * kr * (S - m) - Z) * ((m + S) * Di) = (2 * m * ph + 2 * kr * th - ee) * Di := by rw [← key2]; grind
    rw [DD] at this
    grind
  have y0 : Y = ((m + S) * Z - ee) * h / 2 := by
    have : 2 * (m * Y) = (m + S) * Z - ee := by grind
    have e2 : Y = (2 * (m * Y)) * h / 2 := by grind
    rw [e2, this]
  have q1 : (ph + kr * th * h) * k * m * Di * (1 + b) = (ph + kr * th * h) * k := by
    rw [eb]
    have : m * Di * (1 + S * h) = 1 := by grind
    have e : (ph + kr * th * h) * k * m * Di * (1 + S * h) = (ph + kr * th * h) * k * (m * Di * (1 + S * h)) := by grind
    rw [e, this]; grind
  have q2 : (ph + kr * th * h) * k = ph * k + th * h := by grind
  have ph2 : Ab (ph * k) (1 / 2) := by
    have a : Ab ph (kr / 2) := ⟨by grind, by grind⟩
    have b : Ab k k := ⟨by grind, by grind⟩
    refine (a.mul b).le ?_
    grind
  have th2 : Ab (th * h) b := by
    have t : Ab th S := ⟨by grind, by grind⟩
    have c : Ab h h := ⟨by grind, by grind⟩
    refine (t.mul c).le ?_
    grind
  refine ⟨(ph + kr * th * h) * k * m * Di, ee * k * Di / 2, ?_, ?_, ?_, ?_, ?_⟩
  · have b1 : b - a = (2 * m * ph + 2 * kr * th - ee) * Di * k * h / 2 := by
      rw [← b0, eb, ea]
      grind
    have v1 : v = 1 + ((m + S) * Z - ee) * h * k * h / 2 := by rw [ev, y0]; grind
    have v2 : v - a * a = Z * k * h / 2 * (b - a) - ee * k * h * h / 2 := by
      rw [v1, eb, ea]
      have e : (m + S) * h = 1 + S * h := by grind
      have e2 : ((m + S) * Z - ee) * h * k * h / 2 = ((m + S) * h) * Z * k * h / 2 - ee * k * h * h / 2 := by grind
      rw [e2, e]
      grind
    have a1 : a - 1 = Z * k * h / 2 := by rw [ea]; grind
    have b2 : b - a = h * ((ph + kr * th * h) * k * m * Di - ee * k * Di / 2) := by
      rw [b1]; exact aux_b2 mh
    have w : v - a * a = (a - 1) * (b - a) - ee * k * h * h / 2 := by rw [v2, a1]
    have d2 : h * h = h * Di * (1 + b) := by
      rw [eb]
      have : Di * (1 + S * h) = h := by
        have x1 : m * (Di * (1 + S * h)) = 1 := by grind
        have x2 : Di * (1 + S * h) = m * h * (Di * (1 + S * h)) := by rw [mh]; grind
        rw [x2]
        have x3 : m * h * (Di * (1 + S * h)) = h * (m * (Di * (1 + S * h))) := by grind
        rw [x3, x1]; grind
      have x : h * Di * (1 + S * h) = h * (Di * (1 + S * h)) := by grind
      rw [x, this]
    have w2 : ee * k * h * h / 2 = ee * k / 2 * (h * Di * (1 + b)) := by rw [← d2]; grind
    rw [w2] at w
    have w3 : (a - 1) * (b - a) = (a - 1) * (h * ((ph + kr * th * h) * k * m * Di - ee * k * Di / 2)) := by rw [b2]
    rw [w3] at w
    grind
  · have b1 : b - a = (2 * m * ph + 2 * kr * th - ee) * Di * k * h / 2 := by
      rw [← b0, eb, ea]
      grind
    have b2 : b - a = h * ((ph + kr * th * h) * k * m * Di - ee * k * Di / 2) := by
      rw [b1]; exact aux_b2 mh
    grind
  · have a : Ab ee ((m + S) / 2) := ⟨by grind, by grind⟩
    have b : Ab k k := ⟨by grind, by grind⟩
    have c : Ab Di Di := ⟨by grind, by grind⟩
    have d : Ab (1 / 2 : Rat) (1 / 2) := ⟨by grind, by grind⟩
    have r := ((a.mul b).mul c).mul d
    have e : ee * k * Di * (1 / 2) = ee * k * Di / 2 := by grind
    rw [e] at r
    refine r.le ?_
    have : (m + S) / 2 * k * Di * (1 / 2) = ((m + S) * Di) * k / 4 := by grind
    rw [this, DD]; grind
  · rw [q1, q2]; exact ph2.add th2
  · intro hh
    rw [q1, q2, hys hh]
    have : 0 * k + th * h = th * h := by grind
    rw [this]
    exact th2

/-- from the halved number back: the loss is at most E * h / K -/
theorem back {v a h kI X E : Rat} (ha : 0 < a) (hh : 0 < h) (hk : 0 < kI) (hE : 0 ≤ E) (d : Ab (v - a * a) (h * kI * X)) (hX : X * (1 + E * h * kI) ≤ E * (a * a)) :
    0 < v ∧ (∀ r, LO r a → LO (2 * r - E * h * kI) v) ∧ (∀ r, UP r a → UP (2 * r + E * h * kI) v) := by
  obtain ⟨d1, d2⟩ := d
  have hhk := Rat.mul_pos hh hk
  have hc0 := Rat.mul_nonneg hE (show 0 ≤ h * kI by grind)
  have hc : 0 < 1 + E * h * kI := by grind
  have haa := Rat.mul_pos ha ha
  have m := Rat.mul_le_mul_of_nonneg_left hX (show 0 ≤ h * kI by grind)
  generalize hg : E * h * kI = g at *
  have hX2 : h * kI * X * (1 + g) ≤ g * (a * a) := by
    have e : h * kI * (E * (a * a)) = g * (a * a) := by rw [← hg]; grind
    rw [e] at m
    grind
  generalize h * kI * X = x at *
  generalize hpp : a * a = p at *
  -- v ≥ p / (1 + g)
  have v1 : p ≤ v * (1 + g) := by
    have := Rat.mul_le_mul_of_nonneg_left (show p - x ≤ v by grind) (show 0 ≤ 1 + g by grind)
    grind
  have hv : 0 < v := by
    rcases tot v 0 with h | h
    · have := Rat.mul_nonneg (show 0 ≤ -v by grind) (show 0 ≤ 1 + g by grind)
      grind
    · rcases Rat.le_iff_lt_or_eq.mp h with h | h
      · exact h
      · subst h; grind
  have x0 : v - p ≤ g * p := by
    have hg0 : 0 ≤ g := by grind
    have xx : x ≤ g * p := by
      refine le_of_mul hc ?_
      have := Rat.mul_nonneg (Rat.mul_nonneg hg0 hg0) (show 0 ≤ p by grind)
      grind
    grind
  have hp : 0 < p := haa
  have hpI := inv_pos hp
  have hvI := inv_pos hv
  have n1 : p ≠ 0 := by grind
  have n2 : v ≠ 0 := by grind
  have et : 1 + (v - p) / p = v / p := by grind
  have hrho : 0 < v / p := by have := Rat.mul_pos hv hpI; grind
  refine ⟨hv, fun r hr => ?_, fun r hr => ?_⟩
  · have l := (hr.mul hr ha).mul (LO.base (t := (v - p) / p) (by grind)) (by grind)
    refine l.mono ?_ ?_
    · rw [et]
      have e : (v - p) / p / (v / p) = 1 - p * (1 / v) := by grind
      rw [e]
      have : p * (1 / v) ≤ 1 + g := by
        refine le_of_mul hv ?_
        have : v * (p * (1 / v)) = p := by grind
        grind
      grind
    · rw [et, hpp]
      have : p * (v / p) = v := by grind
      grind
  · have l := (hr.mul hr ha).mul (UP.base (t := (v - p) / p)) (by grind)
    refine l.mono ?_ ?_
    · have : (v - p) / p ≤ g := by
        refine le_of_mul hp ?_
        have : p * ((v - p) / p) = v - p := by grind
        grind
      grind
    · rw [et, hpp]
      have : p * (v / p) = v := by grind
      grind
end Lg

namespace Lg
/-- the numbers of one row of a table, x below M -/
abbrev NegOK (h0 kr k c0 al al' E p0 p1 : Rat) : Prop :=
  0 < k ∧ k ≤ 1 ∧ kr * k = 1 ∧ 0 ≤ c0 ∧ c0 ≤ 1 / 2 ∧ 0 ≤ E ∧ 0 ≤ h0 ∧ 0 < p1 ∧ 0 ≤ p0 ∧ (p0 + p1 - 1) * (p0 + p1 - 1) ≤ 4 * p1 * (p0 - c0) ∧
  0 < al' ∧ al' ≤ 1 ∧ h0 * ((c0 + 1) / 2 + k * h0 / 4) < al ∧ al' * al' + h0 * ((1 - al') * ((c0 + 1) / 2) + k * (2 * al' + h0) / 4) < al ∧
  (1 + E * h0 * k) * (kr * (1 - al') * (p0 + p1 * h0 + p1 * al') + (2 * al' + h0) / 4) ≤ E * (al' * al') ∧
  (1 + E * h0 * k) * (kr * (p1 - (p0 + p1 * h0) - 2 * p1 * al') + 1 / 2) ≤ 2 * E * al'
theorem sqnn (x : Rat) : 0 ≤ x * x := ratAbs
theorem neg_step {h0 kr k c0 al al' E p0 p1 : Rat} (C : NegOK h0 kr k c0 al al' E p0 p1) {h v a b q e : Rat} (hh : 0 < h) (hh0 : h ≤ h0)
    (ev : v = a * a + h * ((a - 1) * q - e * (a + b))) (eb : b = a + h * (q - e)) (he : Ab e (k / 4)) (hq : Ab (q * (1 + b)) (c0 + b))
    (hb0 : h ≤ b) (hb1 : b ≤ 1) (ha1 : a ≤ 1) (hv : al ≤ v) :
    al' ≤ a ∧ (∀ r, LO r a → LO (2 * r - E * h * k) v) ∧ (∀ r, UP r a → UP (2 * r + E * h * k) v) := by
  obtain ⟨k0, k1, kk, c00, c01, hE, h00, p10, p00, tan, al0, al1, r1, r2, f0, f1⟩ := C
  have b0 : 0 < b := by grind
  have b1p : 0 < 1 + b := by grind
  -- |q| by constants
  have hq1 : Ab q ((c0 + 1) / 2) := by
    have m := Rat.mul_nonneg (show 0 ≤ 1 - c0 by grind) (show 0 ≤ 1 - b by grind)
    have w : c0 + b ≤ (c0 + 1) / 2 * (1 + b) := by grind
    obtain ⟨q1, q2⟩ := hq
    constructor
    · refine le_of_mul b1p ?_; grind
    · refine le_of_mul b1p ?_; grind
  have hq2 : Ab q (p0 + p1 * b) := by
    have s := sqnn (2 * p1 * b + (p0 + p1 - 1))
    have w : c0 + b ≤ (p0 + p1 * b) * (1 + b) := by
      refine le_of_mul (show 0 < 4 * p1 by grind) ?_
      grind
    obtain ⟨q1, q2⟩ := hq
    constructor
    · refine le_of_mul b1p ?_; grind
    · refine le_of_mul b1p ?_; grind
  have he4 : Ab e (1 / 4) := he.le (by grind)
  have hqe : Ab (q + -e) 1 := (hq1.add he4.neg).le (by grind)
  have hHq : Ab (h * (q + -e)) (h * 1) := by
    have : Ab h h := ⟨by grind, by grind⟩
    exact this.mul hqe
  have eb' : b = a + h * (q + -e) := by rw [eb]; grind
  have a0 : 0 ≤ a := by obtain ⟨x, y⟩ := hHq; grind
  have ba : b ≤ a + h := by obtain ⟨x, y⟩ := hHq; grind
  have om : Ab (1 - a) (1 - a) := ⟨by grind, by grind⟩
  have abp : Ab (a + b) (a + b) := ⟨by grind, by grind⟩
  have hA : Ab h h := ⟨by grind, by grind⟩
  have dv : v - a * a = h * (-((1 - a) * q) + -(e * (a + b))) := by rw [ev]; grind
  -- a is not below al'
  have d1 : Ab (v - a * a) (h * ((1 - a) * ((c0 + 1) / 2) + k / 4 * (a + b))) := by
    rw [dv]
    exact hA.mul ((om.mul hq1).neg.add (he.mul abp).neg)
  have haa : al' ≤ a := by
    rcases tot al' a with x | x
    · exact x
    rcases Rat.le_iff_lt_or_eq.mp x with x | x
    · exfalso
      have g0 : 0 ≤ (1 - a) * ((c0 + 1) / 2) + k / 4 * (a + b) := by
        have := Rat.mul_nonneg (show 0 ≤ 1 - a by grind) (show 0 ≤ (c0 + 1) / 2 by grind)
        have := Rat.mul_nonneg (show 0 ≤ k / 4 by grind) (show 0 ≤ a + b by grind)
        grind
      have g1 : k / 4 * (a + b) ≤ k / 4 * (2 * a + h0) := Rat.mul_le_mul_of_nonneg_left (by grind) (by grind)
      have v1 : v ≤ a * a + h * ((1 - a) * ((c0 + 1) / 2) + k / 4 * (a + b)) := by obtain ⟨_, y⟩ := d1; grind
      have v2 := Rat.mul_nonneg (show 0 ≤ h0 - h by grind) g0
      have v3 := Rat.mul_le_mul_of_nonneg_left (show (1 - a) * ((c0 + 1) / 2) + k / 4 * (a + b) ≤ (1 - a) * ((c0 + 1) / 2) + k / 4 * (2 * a + h0) by grind) h00
      have v4 : v ≤ a * a + h0 * ((1 - a) * ((c0 + 1) / 2) + k / 4 * (2 * a + h0)) := by grind
      have v5 := Rat.mul_nonneg a0 (show 0 ≤ al' - a by grind)
      -- linear in a, below al at both ends
      have l0 := Rat.mul_nonneg (show 0 ≤ al' - a by grind) (show 0 ≤ al - h0 * ((c0 + 1) / 2 + k * h0 / 4) by grind)
      have l1 := Rat.mul_nonneg a0 (show 0 ≤ al - (al' * al' + h0 * ((1 - al') * ((c0 + 1) / 2) + k * (2 * al' + h0) / 4)) by grind)
      have l2 : al' * (al - (al' * a + h0 * ((1 - a) * ((c0 + 1) / 2) + k / 4 * (2 * a + h0)))) = (al' - a) * (al - h0 * ((c0 + 1) / 2 + k * h0 / 4)) + a * (al - (al' * al' + h0 * ((1 - al') * ((c0 + 1) / 2) + k * (2 * al' + h0) / 4))) := by grind
      have l3 : 0 < al' * (al - (al' * a + h0 * ((1 - a) * ((c0 + 1) / 2) + k / 4 * (2 * a + h0)))) := by
        have := Rat.mul_pos (show 0 < al' - a by grind) (show 0 < al - h0 * ((c0 + 1) / 2 + k * h0 / 4) by grind)
        grind
      have l4 : al - (al' * a + h0 * ((1 - a) * ((c0 + 1) / 2) + k / 4 * (2 * a + h0))) ≤ 0 := by grind
      have l5 := Rat.mul_nonneg (show 0 ≤ al' by grind) (show 0 ≤ -(al - (al' * a + h0 * ((1 - a) * ((c0 + 1) / 2) + k / 4 * (2 * a + h0)))) by grind)
      grind
    · grind
  refine ⟨haa, ?_⟩
  have apos : 0 < a := by grind
  -- the loss
  let X := kr * (1 - a) * (p0 + p1 * h0 + p1 * a) + (2 * a + h0) / 4
  have kr0 : 0 < kr := by
    rcases tot kr 0 with x | x
    · have := Rat.mul_nonneg (show 0 ≤ -kr by grind) (show 0 ≤ k by grind); grind
    · rcases Rat.le_iff_lt_or_eq.mp x with x | x
      · exact x
      · subst x; grind
  have d2 : Ab (v - a * a) (h * k * X) := by
    have r := hA.mul ((om.mul hq2).neg.add (he.mul abp).neg)
    rw [← dv] at r
    refine r.le ?_
    have w1 : (1 - a) * (p0 + p1 * b) ≤ (1 - a) * (p0 + p1 * h0 + p1 * a) := Rat.mul_le_mul_of_nonneg_left (by
      have := Rat.mul_le_mul_of_nonneg_left (show b ≤ a + h0 by grind) (show 0 ≤ p1 by grind); grind) (by grind)
    have w2 : k / 4 * (a + b) ≤ k / 4 * (2 * a + h0) := Rat.mul_le_mul_of_nonneg_left (by grind) (by grind)
    have w3 : k * X = (1 - a) * (p0 + p1 * h0 + p1 * a) + k / 4 * (2 * a + h0) := by
      show k * (kr * (1 - a) * (p0 + p1 * h0 + p1 * a) + (2 * a + h0) / 4) = _
      have : k * (kr * (1 - a) * (p0 + p1 * h0 + p1 * a)) = (kr * k) * ((1 - a) * (p0 + p1 * h0 + p1 * a)) := by grind
      have e2 : k * (kr * (1 - a) * (p0 + p1 * h0 + p1 * a) + (2 * a + h0) / 4) = k * (kr * (1 - a) * (p0 + p1 * h0 + p1 * a)) + k / 4 * (2 * a + h0) := by grind
      rw [e2, this, kk]; grind
    have w4 := Rat.mul_le_mul_of_nonneg_left (show (1 - a) * (p0 + p1 * b) + k / 4 * (a + b) ≤ k * X by rw [w3]; grind) (show 0 ≤ h by grind)
    grind
  have hX0 : 0 ≤ X := by
    have x1 : 0 ≤ p0 + p1 * h0 + p1 * a := by
      have := Rat.mul_nonneg (show 0 ≤ p1 by grind) h00
      have := Rat.mul_nonneg (show 0 ≤ p1 by grind) a0
      grind
    have := Rat.mul_nonneg (Rat.mul_nonneg (show 0 ≤ kr by grind) (show 0 ≤ 1 - a by grind)) x1
    show 0 ≤ kr * (1 - a) * (p0 + p1 * h0 + p1 * a) + (2 * a + h0) / 4
    grind
  have fin : X * (1 + E * h0 * k) ≤ E * (a * a) := by
    show (kr * (1 - a) * (p0 + p1 * h0 + p1 * a) + (2 * a + h0) / 4) * (1 + E * h0 * k) ≤ E * (a * a)
    have c0' : 0 ≤ 1 + E * h0 * k := by
      have := Rat.mul_nonneg (Rat.mul_nonneg hE h00) (show 0 ≤ k by grind)
      grind
    generalize 1 + E * h0 * k = c at *
    obtain ⟨t, ht⟩ : ∃ t, a = al' + t := ⟨a - al', by grind⟩
    have t0 : 0 ≤ t := by grind
    subst ht
    have g1 := Rat.mul_nonneg t0 (show 0 ≤ 2 * E * al' - c * (kr * (p1 - (p0 + p1 * h0) - 2 * p1 * al') + 1 / 2) by grind)
    have g2 := Rat.mul_nonneg hE (sqnn t)
    have g3 := Rat.mul_nonneg (Rat.mul_nonneg (Rat.mul_nonneg c0' (show 0 ≤ kr by grind)) (show 0 ≤ p1 by grind)) (sqnn t)
    grind
  have fin2 : X * (1 + E * h * k) ≤ E * (a * a) := by
    have := Rat.mul_nonneg hX0 (Rat.mul_nonneg (Rat.mul_nonneg hE (show 0 ≤ h0 - h by grind)) (show 0 ≤ k by grind))
    grind
  exact (back apos hh k0 hE d2 fin2).2
end Lg

namespace Lg
/-- the numbers of one row of a table, x not below M -/
abbrev PosOK (h0 kr k c0 be be' E Q : Rat) : Prop :=
  0 < k ∧ k ≤ 1 ∧ kr * k = 1 ∧ 0 ≤ c0 ∧ c0 ≤ 1 / 2 ∧ 0 ≤ E ∧ 0 ≤ h0 ∧ h0 ≤ 1 ∧ 0 ≤ Q ∧ Q ≤ 1 ∧ 1 ≤ be' ∧
  be ≤ be' * be' - h0 * ((be' - 1) + k / 4 * (2 * be' + 5 / 4 * h0)) ∧
  c0 + (be' + 5 / 4 * h0) ≤ Q * (1 + (be' + 5 / 4 * h0)) ∧
  (((1 + E * h0 * k) * (kr * Q + 1 / 2)) * ((1 + E * h0 * k) * (kr * Q + 1 / 2)) ≤ 4 * E * ((1 + E * h0 * k) * (kr * Q - 5 / 16 * h0)) ∧ 0 < E ∨
   (1 + E * h0 * k) * (kr * (be' - 1) * Q + (2 * be' + 5 / 4 * h0) / 4) ≤ E * (be' * be') ∧ 2 * E * be' ≤ (1 + E * h0 * k) * (kr * Q + 1 / 2))
theorem pos_step {h0 kr k c0 be be' E Q : Rat} (C : PosOK h0 kr k c0 be be' E Q) {h v a b q e : Rat} (hh : 0 < h) (hh0 : h ≤ h0)
    (ev : v = a * a + h * ((a - 1) * q - e * (a + b))) (eb : b = a + h * (q - e)) (he : Ab e (k / 4)) (hq : Ab (q * (1 + b)) (c0 + b))
    (hb1 : 1 ≤ b) (ha1 : 1 ≤ a) (hv : v ≤ be) :
    a ≤ be' ∧ (∀ r, LO r a → LO (2 * r - E * h * k) v) ∧ (∀ r, UP r a → UP (2 * r + E * h * k) v) := by
  obtain ⟨k0, k1, kk, c00, c01, hE, h00, h01, hQ0, hQ1, be1, r1, r2, f⟩ := C
  have b1p : 0 < 1 + b := by grind
  have hq1 : Ab q 1 := by
    obtain ⟨q1, q2⟩ := hq
    constructor
    · refine le_of_mul b1p ?_; grind
    · refine le_of_mul b1p ?_; grind
  have he4 : Ab e (1 / 4) := he.le (by grind)
  have hqe : Ab (q + -e) (5 / 4) := (hq1.add he4.neg).le (by grind)
  have hA : Ab h h := ⟨by grind, by grind⟩
  have hHq : Ab (h * (q + -e)) (h * (5 / 4)) := hA.mul hqe
  have eb' : b = a + h * (q + -e) := by rw [eb]; grind
  have ba : b ≤ a + 5 / 4 * h := by obtain ⟨x, y⟩ := hHq; grind
  have om : Ab (a - 1) (a - 1) := ⟨by grind, by grind⟩
  have abp : Ab (a + b) (a + b) := ⟨by grind, by grind⟩
  have dv : v - a * a = h * ((a - 1) * q + -(e * (a + b))) := by rw [ev]; grind
  have d1 : Ab (v - a * a) (h * ((a - 1) * 1 + k / 4 * (a + b))) := by
    rw [dv]
    exact hA.mul ((om.mul hq1).add (he.mul abp).neg)
  have kab : k / 4 * (a + b) ≤ k / 4 * (2 * a + 5 / 4 * h0) := Rat.mul_le_mul_of_nonneg_left (by grind) (by grind)
  have kab0 := Rat.mul_nonneg (show 0 ≤ k / 4 by grind) (show 0 ≤ a + b by grind)
  have haa : a ≤ be' := by
    rcases tot a be' with x | x
    · exact x
    rcases Rat.le_iff_lt_or_eq.mp x with x | x
    · exfalso
      have v1 : a * a - h * ((a - 1) * 1 + k / 4 * (a + b)) ≤ v := by obtain ⟨y, _⟩ := d1; grind
      have g0 : 0 ≤ (a - 1) * 1 + k / 4 * (a + b) := by grind
      have v2 := Rat.mul_nonneg (show 0 ≤ h0 - h by grind) g0
      have v3 := Rat.mul_le_mul_of_nonneg_left (show (a - 1) * 1 + k / 4 * (a + b) ≤ (a - 1) * 1 + k / 4 * (2 * a + 5 / 4 * h0) by grind) h00
      have v4 : a * a - h0 * ((a - 1) * 1 + k / 4 * (2 * a + 5 / 4 * h0)) ≤ v := by grind
      obtain ⟨t, ht⟩ : ∃ t, a = be' + t := ⟨a - be', by grind⟩
      have t0 : 0 < t := by grind
      have w1 : h0 * (1 + k / 2) ≤ 3 / 2 := by
        have := mul_le_mul h01 (show 1 + k / 2 ≤ 3 / 2 by grind) h00 (by grind)
        grind
      have w2 := Rat.mul_pos t0 (show 0 < 2 * be' + t - h0 * (1 + k / 2) by grind)
      subst ht
      grind
    · grind
  refine ⟨haa, ?_⟩
  have hq2 : Ab q Q := by
    have w : c0 + b ≤ Q * (1 + b) := by
      have := Rat.mul_nonneg (show 0 ≤ 1 - Q by grind) (show 0 ≤ be' + 5 / 4 * h0 - b by grind)
      grind
    obtain ⟨q1, q2⟩ := hq
    constructor
    · refine le_of_mul b1p ?_; grind
    · refine le_of_mul b1p ?_; grind
  let X := kr * (a - 1) * Q + (2 * a + 5 / 4 * h0) / 4
  have kr0 : 0 < kr := by
    rcases tot kr 0 with x | x
    · have := Rat.mul_nonneg (show 0 ≤ -kr by grind) (show 0 ≤ k by grind); grind
    · rcases Rat.le_iff_lt_or_eq.mp x with x | x
      · exact x
      · subst x; grind
  have d2 : Ab (v - a * a) (h * k * X) := by
    have r := hA.mul ((om.mul hq2).add (he.mul abp).neg)
    rw [← dv] at r
    refine r.le ?_
    have w3 : k * X = (a - 1) * Q + k / 4 * (2 * a + 5 / 4 * h0) := by
      show k * (kr * (a - 1) * Q + (2 * a + 5 / 4 * h0) / 4) = _
      have e2 : k * (kr * (a - 1) * Q + (2 * a + 5 / 4 * h0) / 4) = (kr * k) * ((a - 1) * Q) + k / 4 * (2 * a + 5 / 4 * h0) := by grind
      rw [e2, kk]; grind
    have w4 := Rat.mul_le_mul_of_nonneg_left (show (a - 1) * Q + k / 4 * (a + b) ≤ k * X by rw [w3]; grind) (show 0 ≤ h by grind)
    grind
  have hX0 : 0 ≤ X := by
    have := Rat.mul_nonneg (Rat.mul_nonneg (show 0 ≤ kr by grind) (show 0 ≤ a - 1 by grind)) hQ0
    show 0 ≤ kr * (a - 1) * Q + (2 * a + 5 / 4 * h0) / 4
    grind
  have fin : X * (1 + E * h0 * k) ≤ E * (a * a) := by
    show (kr * (a - 1) * Q + (2 * a + 5 / 4 * h0) / 4) * (1 + E * h0 * k) ≤ E * (a * a)
    have c0' : 0 ≤ 1 + E * h0 * k := by
      have := Rat.mul_nonneg (Rat.mul_nonneg hE h00) (show 0 ≤ k by grind)
      grind
    generalize 1 + E * h0 * k = c at *
    rcases f with ⟨f, hE'⟩ | ⟨f0, f1⟩
    · refine le_of_mul (show 0 < 4 * E by grind) ?_
      have s := sqnn (2 * E * a - c * (kr * Q + 1 / 2))
      grind
    · obtain ⟨t, ht⟩ : ∃ t, a = be' - t := ⟨be' - a, by grind⟩
      have t0 : 0 ≤ t := by grind
      subst ht
      have g1 := Rat.mul_nonneg t0 (show 0 ≤ c * (kr * Q + 1 / 2) - 2 * E * be' by grind)
      have g2 := Rat.mul_nonneg hE (sqnn t)
      grind
  have fin2 : X * (1 + E * h * k) ≤ E * (a * a) := by
    have := Rat.mul_nonneg hX0 (Rat.mul_nonneg (Rat.mul_nonneg hE (show 0 ≤ h0 - h by grind)) (show 0 ≤ k by grind))
    grind
  exact (back (by grind) hh k0 hE d2 fin2).2
end Lg

namespace Lg
/- the program's small functions -/
noncomputable def divN (a b : Int) : Int := a.fdiv b + if b < 2 * a.fmod b + (a.fdiv b).fmod 2 then 1 else 0
noncomputable def rsn (x s : Int) : Int := x.fdiv (2 ^ s.toNat) + if 2 ^ s.toNat < 2 * x.fmod (2 ^ s.toNat) + (x.fdiv (2 ^ s.toNat)).fmod 2 then 1 else 0
noncomputable def nxt (n a : Int) : Int := (a - (-n).fdiv a).fdiv 2
noncomputable def newt (n : Int) : Nat → Int → Int
  | 0, a => a
  | f + 1, a => if nxt n a = a then a else newt n f (nxt n a)
noncomputable def IsSq (n s : Int) : Prop := 1 ≤ s ∧ s * s - s < n ∧ n ≤ s * s + s
noncomputable def sqN (n a : Int) : Int := newt n (n.toNat + a.toNat + 3) a

theorem fd {x p : Int} (h : 0 < p) : x.fdiv p = x / p := Int.fdiv_eq_ediv_of_nonneg _ (by lia)
theorem fm {x p : Int} (h : 0 < p) : x.fmod p = x % p := Int.fmod_eq_emod_of_nonneg _ (by lia)
theorem divN_facts {a b : Int} (hb : 0 < b) : -b ≤ 2 * (b * divN a b - a) ∧ 2 * (b * divN a b - a) ≤ b := by
  unfold divN
  rw [fd hb, fm hb, fm (by decide)]
  have h1 := Int.mul_ediv_add_emod a b
  have h2 := Int.emod_nonneg a (show b ≠ 0 by lia)
  have h3 := Int.emod_lt_of_pos a hb
  generalize a / b = q at *
  generalize a % b = r at *
  split
  · rw [Int.mul_add, Int.mul_one]; lia
  · rw [Int.add_zero]; lia
theorem pw_pos (k : Nat) : (0 : Int) < 2 ^ k := Int.pow_pos (by decide)
theorem rsn_divN (x s : Int) : rsn x s = divN x (2 ^ s.toNat) := rfl
theorem rsn_zero (x : Int) : rsn x 0 = x := by
  have := divN_facts (a := x) (pw_pos (Int.toNat 0))
  rw [← rsn_divN] at this
  simp at this
  lia
theorem isSq_unique {n s t : Int} (h : IsSq n s) (g : IsSq n t) : s = t := by
  obtain ⟨h0, h1, h2⟩ := h
  obtain ⟨g0, g1, g2⟩ := g
  rcases Int.lt_trichotomy s t with a | a | a
  · exfalso
    have : (s + 1) * s ≤ t * (t - 1) := Int.mul_le_mul (by lia) (by lia) (by lia) (by lia)
    rw [Int.add_mul, Int.mul_sub] at this
    lia
  · exact a
  · exfalso
    have : (t + 1) * t ≤ s * (s - 1) := Int.mul_le_mul (by lia) (by lia) (by lia) (by lia)
    rw [Int.add_mul, Int.mul_sub] at this
    lia
/-- the next approximation: twice it is a + n / a rounded up, or one less -/
theorem nxt_facts {n a : Int} (ha : 1 ≤ a) : ∃ c : Int, c * a ≥ n ∧ (c - 1) * a < n ∧ 2 * nxt n a ≤ a + c ∧ a + c ≤ 2 * nxt n a + 1 := by
  unfold nxt
  rw [fd (p := 2) (by decide), fd (p := a) (by lia)]
  have h1 := Int.mul_ediv_add_emod (-n) a
  have h2 := Int.emod_nonneg (-n) (show a ≠ 0 by lia)
  have h3 := Int.emod_lt_of_pos (-n) (show 0 < a by lia)
  refine ⟨-((-n) / a), ?_, ?_, by lia, by lia⟩
  · rw [Int.neg_mul, Int.mul_comm]; lia
  · rw [Int.sub_mul, Int.neg_mul, Int.mul_comm, Int.one_mul]; lia
theorem nxt_fix {n a : Int} (ha : 1 ≤ a) (h : nxt n a = a) : IsSq n a := by
  obtain ⟨c, c1, c2, c3, c4⟩ := nxt_facts (n := n) ha
  rw [h] at c3 c4
  have : c = a ∨ c = a + 1 := by lia
  rcases this with rfl | rfl
  · rw [Int.sub_mul] at c2
    exact ⟨ha, by lia, by lia⟩
  · rw [Int.add_mul] at c1
    have : a + 1 - 1 = a := by lia
    rw [this] at c2
    exact ⟨ha, by lia, by lia⟩
/-- never below the root -/
theorem nxt_ge {n a : Int} (ha : 1 ≤ a) (hn : 1 ≤ n) : 1 ≤ nxt n a ∧ n ≤ nxt n a * nxt n a + nxt n a := by
  obtain ⟨c, c1, c2, c3, c4⟩ := nxt_facts (n := n) ha
  have hc : 1 ≤ c := by
    rcases Int.lt_or_le 0 c with h | h
    · lia
    · have := Int.mul_nonneg (show 0 ≤ -c by lia) (show 0 ≤ a by lia)
      rw [Int.neg_mul] at this; lia
  refine ⟨by lia, ?_⟩
  generalize nxt n a = t at *
  -- (a - c)^2 ≥ 0
  have sq : 0 ≤ (a - c) * (a - c) := by
    rcases Int.le_total 0 (a - c) with h | h
    · exact Int.mul_nonneg h h
    · have := Int.mul_nonneg (show 0 ≤ -(a - c) by lia) (show 0 ≤ -(a - c) by lia)
      rw [Int.neg_mul_neg] at this; exact this
  have up : (a + c) * (a + c) ≤ (2 * t + 1) * (2 * t + 1) := Int.mul_le_mul c4 c4 (by lia) (by lia)
  have e1 : (a - c) * (a - c) = a * a - 2 * (c * a) + c * c := by grind
  have e2 : (a + c) * (a + c) = a * a + 2 * (c * a) + c * c := by grind
  have e3 : (2 * t + 1) * (2 * t + 1) = 4 * (t * t) + 4 * t + 1 := by grind
  lia
theorem nxt_le {n a : Int} (ha : 1 ≤ a) (h : n ≤ a * a + a) : nxt n a ≤ a := by
  obtain ⟨c, c1, c2, c3, c4⟩ := nxt_facts (n := n) ha
  have : c - 1 < a + 1 := by
    rcases Int.lt_or_le (c - 1) (a + 1) with x | x
    · exact x
    · have := Int.mul_le_mul_of_nonneg_right x (show 0 ≤ a by lia)
      rw [Int.add_mul] at this; lia
  lia
theorem nxt_le' {n a : Int} (ha : 1 ≤ a) (hn : 1 ≤ n) (h : a * a + a < n) : nxt n a ≤ n := by
  obtain ⟨c, c1, c2, c3, c4⟩ := nxt_facts (n := n) ha
  have : c - 1 < n := by
    rcases Int.lt_or_le (c - 1) n with x | x
    · exact x
    · have := Int.mul_le_mul_of_nonneg_right x (show 0 ≤ a by lia)
      have : n * 1 ≤ n * a := Int.mul_le_mul_of_nonneg_left ha (by lia)
      lia
  have : 0 ≤ a * a := Int.mul_nonneg (by lia) (by lia)
  lia
theorem newt_sq : ∀ (f : Nat) {n a : Int}, 1 ≤ n → 1 ≤ a → n ≤ a * a + a → a.toNat ≤ f → IsSq n (newt n f a)
  | 0, n, a, _, ha, _, hf => by lia
  | f + 1, n, a, hn, ha, h, hf => by
    rw [newt]
    by_cases e : nxt n a = a
    · rw [if_pos e]; exact nxt_fix ha e
    · rw [if_neg e]
      have h1 := nxt_ge ha hn
      have h2 := nxt_le ha h
      exact newt_sq f hn h1.1 h1.2 (by lia)
theorem sqN_sq {n a : Int} (hn : 1 ≤ n) (ha : 1 ≤ a) : IsSq n (sqN n a) := by
  unfold sqN
  rcases Int.lt_or_le (a * a + a) n with h | h
  · have e : n.toNat + a.toNat + 3 = (n.toNat + a.toNat + 2) + 1 := by lia
    rw [e, newt]
    have h1 := nxt_ge ha hn
    have h2 := nxt_le' ha hn h
    by_cases e : nxt n a = a
    · rw [if_pos e]; exact nxt_fix ha e
    · rw [if_neg e]; exact newt_sq _ hn h1.1 h1.2 (by lia)
  · exact newt_sq _ hn ha h (by lia)
/-- one halving of _ilog -/
noncomputable def stepY (M y R : Int) : Int := divN (2 * (M * y)) (M + sqN (M * (M + rsn y R)) M)
noncomputable def iterY (M y : Int) : Nat → Int
  | 0 => y
  | j + 1 => stepY M (iterY M y j) j
theorem halving_of {M y R : Int} (hM : 1 ≤ M) (h : 1 ≤ M + rsn y R) : Halving M (2 ^ R.toNat) y (rsn y R) (sqN (M * (M + rsn y R)) M) (stepY M y R) := by
  have hn : 1 ≤ M * (M + rsn y R) := by
    have := Int.mul_le_mul hM h (by lia) (by lia); lia
  obtain ⟨s0, s1, s2⟩ := sqN_sq hn hM
  have r := divN_facts (a := y) (pw_pos R.toNat)
  rw [← rsn_divN] at r
  have d := divN_facts (a := 2 * (M * y)) (b := M + sqN (M * (M + rsn y R)) M) (by lia)
  exact ⟨by lia, pw_pos _, r.1, r.2, s0, s1, s2, d.1, d.2⟩
theorem Halving.negs {M K y ys s z : Int} (H : Halving M K y ys s z) (hy : y ≤ -1) : ys ≤ 0 ∧ s ≤ M ∧ z ≤ -1 := by
  obtain ⟨hM, hK, y1, y2, s0, s1, s2, z1, z2⟩ := H
  have a : ys ≤ 0 := by
    rcases Int.lt_or_le 0 ys with x | x
    · have := Int.mul_le_mul_of_nonneg_left (show 1 ≤ ys by lia) (show 0 ≤ K by lia); lia
    · exact x
  have b : s ≤ M := by
    rcases Int.lt_or_le M s with x | x
    · have h1 : (M + 1) * M ≤ s * (s - 1) := Int.mul_le_mul (by lia) (by lia) (by lia) (by lia)
      have h2 := Int.mul_nonneg (show 0 ≤ M by lia) (show 0 ≤ -ys by lia)
      rw [Int.add_mul, Int.mul_sub] at h1
      rw [Int.mul_add] at s1
      rw [Int.mul_neg] at h2
      lia
    · exact x
  refine ⟨a, b, ?_⟩
  rcases Int.lt_or_le (-1) z with x | x
  · have h1 := Int.mul_nonneg (show 0 ≤ M + s by lia) (show 0 ≤ z by lia)
    have h2 := Int.mul_le_mul_of_nonneg_left hy (show 0 ≤ M by lia)
    lia
  · exact x
theorem Halving.poss {M K y ys s z : Int} (H : Halving M K y ys s z) (hy : 1 ≤ y) : 0 ≤ ys ∧ M ≤ s ∧ 1 ≤ z := by
  obtain ⟨hM, hK, y1, y2, s0, s1, s2, z1, z2⟩ := H
  have a : 0 ≤ ys := by
    rcases Int.lt_or_le ys 0 with x | x
    · have := Int.mul_le_mul_of_nonneg_left (show ys ≤ -1 by lia) (show 0 ≤ K by lia); lia
    · exact x
  have h2 := Int.mul_nonneg (show 0 ≤ M by lia) a
  rw [Int.mul_add] at s1 s2
  have b : M ≤ s := by
    rcases Int.lt_or_le s M with x | x
    · have h1 : s * (s + 1) ≤ (M - 1) * M := Int.mul_le_mul (by lia) (by lia) (by lia) (by lia)
      rw [Int.sub_mul, Int.mul_add] at h1
      lia
    · exact x
  refine ⟨a, b, ?_⟩
  have yb : ys ≤ y := by
    rcases Int.lt_or_le y ys with x | x
    · have h3 := Int.mul_le_mul_of_nonneg_left (show y + 1 ≤ ys by lia) (show 0 ≤ K by lia)
      have h4 := Int.mul_le_mul_of_nonneg_right (show 1 ≤ K by lia) (show 0 ≤ y by lia)
      rw [Int.mul_add] at h3
      lia
    · exact x
  have sb : s ≤ M + y := by
    rcases Int.lt_or_le (M + y) s with x | x
    · have h1 : (M + y + 1) * (M + y) ≤ s * (s - 1) := Int.mul_le_mul (by lia) (by lia) (by lia) (by lia)
      have h5 := Int.mul_le_mul_of_nonneg_left yb (show 0 ≤ M by lia)
      have h6 := Int.mul_nonneg (show 0 ≤ y by lia) (show 0 ≤ M by lia)
      have h7 := Int.mul_nonneg (show 0 ≤ y by lia) (show 0 ≤ y by lia)
      have e : (M + y + 1) * (M + y) = M * M + M * y + y * M + y * y + M + y := by grind
      rw [Int.mul_sub] at h1
      lia
    · exact x
  rcases Int.lt_or_le z 1 with x | x
  · have h1 := Int.mul_nonneg (show 0 ≤ M + s by lia) (show 0 ≤ -z by lia)
    have h3 := Int.mul_le_mul hy (Int.le_refl M) (by lia) (by lia)
    have h4 := Int.mul_le_mul_of_nonneg_right (show 1 ≤ M by lia) (show 0 ≤ y by lia)
    rw [Int.mul_neg] at h1
    rw [Int.mul_comm y M] at h3
    lia
  · exact x
end Lg

namespace Lg
noncomputable def Bs (E : Nat → Rat) : Nat → Rat
  | 0 => 0
  | j + 1 => Bs E j + E j
/-- the number whose logarithm is left after j halvings -/
noncomputable def vv (M : Int) (y : Int) (j : Nat) : Rat := 1 + (y : Rat) * (1 / 2 ^ j) * (1 / M)
theorem cast_two (j : Nat) : (((2 : Int) ^ j : Int) : Rat) = 2 ^ j := by push_cast; rfl
theorem two_pos (j : Nat) : (0 : Rat) < 2 ^ j := pow_pos (by grind) j
/-- how the halvings keep the logarithm: what is known of v_j is known of v_0 -/
noncomputable def Keeps (M x : Int) (y : Int) (j : Nat) (B : Rat) : Prop :=
  (∀ r, LO r (vv M y j) → LO (2 ^ j * r - B * (1 / M)) ((x : Rat) / M)) ∧ (∀ r, UP r (vv M y j) → UP (2 ^ j * r + B * (1 / M)) ((x : Rat) / M))
theorem keeps_zero {M x : Int} (hM : 1 ≤ M) : Keeps M x (x - M) 0 0 := by
  have hm := clt (show (0 : Int) < M by omega)
  have e : vv M (x - M) 0 = (x : Rat) / M := by
    unfold vv; push_cast at *; grind
  constructor
  · intro r hr
    rw [e] at hr
    refine hr.mono ?_ (Rat.le_refl)
    rw [Rat.pow_zero]; grind
  · intro r hr
    rw [e] at hr
    refine hr.mono ?_ (Rat.le_refl)
    rw [Rat.pow_zero]; grind
theorem keeps_succ {M x y z : Int} {j : Nat} {B E : Rat} (K : Keeps M x y j B)
    (l : ∀ r, LO r (vv M z (j + 1)) → LO (2 * r - E * (1 / M) * (1 / 2 ^ j)) (vv M y j)) (u : ∀ r, UP r (vv M z (j + 1)) → UP (2 * r + E * (1 / M) * (1 / 2 ^ j)) (vv M y j)) :
    Keeps M x z (j + 1) (B + E) := by
  have h2 := two_pos j
  have e : (2 : Rat) ^ j * (1 / 2 ^ j) = 1 := by grind
  have e1 : (2 : Rat) ^ (j + 1) = 2 * 2 ^ j := by rw [Rat.pow_succ]; grind
  constructor
  · intro r hr
    refine (K.1 _ (l r hr)).mono ?_ (Rat.le_refl)
    have : (2 : Rat) ^ j * (2 * r - E * (1 / M) * (1 / 2 ^ j)) = 2 * 2 ^ j * r - E * (1 / M) * (2 ^ j * (1 / 2 ^ j)) := by grind
    rw [this, e, e1]; grind
  · intro r hr
    refine (K.2 _ (u r hr)).mono ?_ (Rat.le_refl)
    have : (2 : Rat) ^ j * (2 * r + E * (1 / M) * (1 / 2 ^ j)) = 2 * 2 ^ j * r + E * (1 / M) * (2 ^ j * (1 / 2 ^ j)) := by grind
    rw [this, e, e1]; grind
theorem rsn_low {y : Int} (j : Nat) : ((y : Rat) * (1 / 2 ^ j) - 1 / 2 ≤ (rsn y j : Int)) ∧ (((rsn y j : Int) : Rat) ≤ (y : Rat) * (1 / 2 ^ j) + 1 / 2) := by
  have r := divN_facts (a := y) (pw_pos (j : Int).toNat)
  rw [← rsn_divN] at r
  have r1 := cle r.1
  have r2 := cle r.2
  push_cast at r1 r2
  have e : ((j : Int).toNat) = j := by omega
  rw [e] at r1 r2
  have h2 := two_pos j
  constructor
  · refine le_of_mul h2 ?_
    have : (2 : Rat) ^ j * ((y : Rat) * (1 / 2 ^ j) - 1 / 2) = y - 2 ^ j / 2 := by grind
    grind
  · refine le_of_mul h2 ?_
    have : (2 : Rat) ^ j * ((y : Rat) * (1 / 2 ^ j) + 1 / 2) = y + 2 ^ j / 2 := by grind
    grind
theorem rsn_pos {M y : Int} {j : Nat} {al : Rat} (hM : 10 ≤ M) (hal : 1 / 10 ≤ al) (hv : al ≤ vv M y j) : 1 ≤ M + rsn y j := by
  have r := (rsn_low (y := y) j).1
  have hm := cle hM
  have hm0 := clt (show (0 : Int) < M by omega)
  unfold vv at hv
  have h2 := two_pos j
  have m := Rat.mul_le_mul_of_nonneg_left hv (show (0 : Rat) ≤ M by grind)
  have e : (M : Rat) * (1 + (y : Rat) * (1 / 2 ^ j) * (1 / M)) = M + y * (1 / 2 ^ j) := by grind
  rw [e] at m
  have m2 := Rat.mul_nonneg (show (0 : Rat) ≤ M - 10 by push_cast at hm; grind) (show 0 ≤ al - 1 / 10 by grind)
  have : (0 : Rat) < ((M + rsn y j : Int) : Rat) := by
    push_cast at *
    rcases tot ((M : Rat) + (rsn y j : Int)) 0 with x | x
    · exfalso
      have hh : (M : Rat) * al ≤ 1 / 2 := by grind
      have h10 : (10 : Rat) * (1/10) ≤ M * al := mul_le_mul (by grind) hal (by grind) (by grind)
      grind
    · rcases Rat.le_iff_lt_or_eq.mp x with x | x
      · grind
      · exfalso
        have h10 : (10 : Rat) * (1/10) ≤ M * al := mul_le_mul (by push_cast at hm; grind) hal (by grind) (by grind)
        grind
  have : (0 : Int) < M + rsn y j := by
    have : ((0 : Int) : Rat) < ((M + rsn y j : Int) : Rat) := by push_cast at *; grind
    exact Rat.intCast_lt_intCast.mp this
  omega
theorem v0_low {M x : Int} (hM : 1 ≤ M) (hx : M ≤ 10 * x) : 1 / 10 ≤ vv M (x - M) 0 := by
  have hm0 := clt (show (0 : Int) < M by omega)
  unfold vv
  have := cle hx
  push_cast at *
  refine le_of_mul hm0 ?_
  rw [Rat.pow_zero]
  have e : (M : Rat) * (1 + ((x : Rat) - M) * (1 / 1) * (1 / M)) = x := by grind
  rw [e]; grind
theorem v0_up {M x : Int} (hM : 1 ≤ M) (hx : x ≤ 10 * M) : vv M (x - M) 0 ≤ 10 := by
  have hm0 := clt (show (0 : Int) < M by omega)
  unfold vv
  have := cle hx
  push_cast at *
  refine le_of_mul hm0 ?_
  rw [Rat.pow_zero]
  have e : (M : Rat) * (1 + ((x : Rat) - M) * (1 / 1) * (1 / M)) = x := by grind
  rw [e]; grind
theorem b_low {M s : Int} (hM : 1 ≤ M) (hs : 1 ≤ s) : 1 / (M : Rat) ≤ (s : Rat) * (1 / (M : Rat)) := by
  have hm0 := inv_pos (clt (show (0 : Int) < M by omega))
  have s0 := cle hs
  push_cast at *
  have := Rat.mul_le_mul_of_nonneg_left s0 (show (0 : Rat) ≤ 1 / M by grind)
  grind
theorem b_up {M s : Int} (hM : 1 ≤ M) (hs : s ≤ M) : (s : Rat) * (1 / (M : Rat)) ≤ 1 := by
  have hm := clt (show (0 : Int) < M by omega)
  have hm0 := inv_pos hm
  have s0 := cle hs
  push_cast at *
  have := Rat.mul_le_mul_of_nonneg_left s0 (show (0 : Rat) ≤ 1 / M by grind)
  have : (1 / (M : Rat)) * M = 1 := by grind
  grind
theorem b_ge {M s : Int} (hM : 1 ≤ M) (hs : M ≤ s) : 1 ≤ (s : Rat) * (1 / (M : Rat)) := by
  have hm := clt (show (0 : Int) < M by omega)
  have hm0 := inv_pos hm
  have s0 := cle hs
  push_cast at *
  have := Rat.mul_le_mul_of_nonneg_left s0 (show (0 : Rat) ≤ 1 / M by grind)
  have : (1 / (M : Rat)) * M = 1 := by grind
  grind
theorem vv_le {M y : Int} {j : Nat} (hM : 1 ≤ M) (hy : y ≤ 0) : vv M y j ≤ 1 := by
  have hm0 := inv_pos (clt (show (0 : Int) < M by omega))
  unfold vv
  have z1 := cle hy
  have h2 := inv_pos (two_pos j)
  push_cast at *
  have := Rat.mul_nonneg (Rat.mul_nonneg (show (0 : Rat) ≤ -(y : Rat) by grind) (show (0 : Rat) ≤ 1 / 2 ^ j by grind)) (show (0 : Rat) ≤ 1 / M by grind)
  grind
theorem a_eq {M z : Int} (j : Nat) : vv M z (j + 1) = 1 + (z : Rat) * (1 / 2 ^ j) * (1 / (M : Rat)) / 2 := by
  unfold vv
  rw [Rat.pow_succ]
  have := two_pos j
  have e : (1 : Rat) / (2 ^ j * 2) = (1 / 2 ^ j) / 2 := by grind
  rw [e]
  grind
theorem q_case {y : Int} {j : Nat} {q b : Rat} (hq : Ab (q * (1 + b)) (1 / 2 + b)) (hq0 : 2 ^ j * rsn y j = y → Ab (q * (1 + b)) b) : Ab (q * (1 + b)) ((if j = 0 then 0 else 1 / 2) + b) := by
  by_cases h0 : j = 0
  · subst h0
    rw [if_pos rfl]
    have := hq0 (by rw [show ((0 : Nat) : Int) = 0 from rfl, rsn_zero]; simp)
    rwa [show (0 : Rat) + b = b by grind]
  · rw [if_neg h0]; exact hq
section
variable {h0 : Rat} {al E p0 p1 : Nat → Rat}
theorem neg_chain (C : ∀ j, j < 10 → NegOK h0 (2 ^ j) (1 / 2 ^ j) (if j = 0 then 0 else 1 / 2) (al j) (al (j + 1)) (E j) (p0 j) (p1 j)) (hal : ∀ j, j ≤ 10 → 1 / 10 ≤ al j) (hal0 : al 0 = 1 / 10)
    {M x : Int} (hM : 10 ≤ M) (hh : 1 / (M : Rat) ≤ h0) (hx : x < M) (hx10 : M ≤ 10 * x) : ∀ j, j ≤ 10 →
    iterY M (x - M) j ≤ -1 ∧ 1 ≤ M + rsn (iterY M (x - M) j) j ∧ al j ≤ vv M (iterY M (x - M) j) j ∧ Keeps M x (iterY M (x - M) j) j (Bs E j) := by
  intro j
  have hm0 := clt (show (0 : Int) < M by omega)
  induction j with
  | zero =>
    intro _
    have hv : al 0 ≤ vv M (x - M) 0 := by rw [hal0]; exact v0_low (by omega) hx10
    exact ⟨by show x - M ≤ -1; omega, rsn_pos hM (hal 0 (by omega)) hv, hv, keeps_zero (by omega)⟩
  | succ j ih =>
    intro hj
    obtain ⟨y1, yp, yv, K⟩ := ih (by omega)
    have H := halving_of (show 1 ≤ M by omega) yp
    have et : ((j : Int).toNat) = j := by omega
    rw [et] at H
    obtain ⟨n1, n2, n3⟩ := H.negs y1
    show iterY M (x - M) (j + 1) ≤ -1 ∧ _
    have ei : iterY M (x - M) (j + 1) = stepY M (iterY M (x - M) j) j := rfl
    rw [ei]
    generalize iterY M (x - M) j = y at *
    have hex := Halving.rat H (h := 1 / M) (k := 1 / 2 ^ j) (v := vv M y j) (a := vv M (stepY M y j) (j + 1)) (b := (sqN (M * (M + rsn y j)) M : Int) * (1 / (M : Rat))) rfl (by rw [cast_two]) rfl (a_eq j) rfl
    obtain ⟨q, e, ev, eb, he, hq, hq0⟩ := hex
    have c := C j (by omega)
    have hhp := inv_pos hm0
    have hq' := q_case hq hq0
    obtain ⟨r1, r2, r3⟩ := neg_step c hhp hh ev eb he hq' (b_low (by omega) H.s0) (b_up (by omega) n2) (vv_le (by omega) (by omega)) yv
    refine ⟨n3, ?_, r1, ?_⟩
    · exact rsn_pos hM (hal (j + 1) hj) r1
    · exact keeps_succ K r2 r3
end
section
variable {h0 : Rat} {be E Q : Nat → Rat}
theorem vv_ge {M y : Int} {j : Nat} (hM : 1 ≤ M) (hy : 0 ≤ y) : 1 ≤ vv M y j := by
  have hm0 := clt (show (0 : Int) < M by omega)
  unfold vv
  have z1 := cle hy
  have := Rat.mul_nonneg (Rat.mul_nonneg (show (0 : Rat) ≤ (y : Int) by push_cast at z1; grind) (show (0 : Rat) ≤ 1 / 2 ^ j by have := inv_pos (two_pos j); grind)) (show (0 : Rat) ≤ 1 / M by have := inv_pos hm0; push_cast at *; grind)
  grind
theorem rsn_nonneg {y : Int} (j : Nat) (hy : 0 ≤ y) : 0 ≤ rsn y j := by
  have r := (rsn_low (y := y) j).1
  have z1 := cle hy
  have := Rat.mul_nonneg (show (0 : Rat) ≤ (y : Int) by push_cast at z1; grind) (show (0 : Rat) ≤ 1 / 2 ^ j by have := inv_pos (two_pos j); grind)
  have : ((-1 : Int) : Rat) < ((rsn y j : Int) : Rat) := by push_cast; grind
  have := Rat.intCast_lt_intCast.mp this
  omega
theorem pos_chain (C : ∀ j, j < 10 → PosOK h0 (2 ^ j) (1 / 2 ^ j) (if j = 0 then 0 else 1 / 2) (be j) (be (j + 1)) (E j) (Q j)) (hbe0 : be 0 = 10)
    {M x : Int} (hM : 1 ≤ M) (hh : 1 / (M : Rat) ≤ h0) (hx : M < x) (hx10 : x ≤ 10 * M) : ∀ j, j ≤ 10 →
    1 ≤ iterY M (x - M) j ∧ 1 ≤ M + rsn (iterY M (x - M) j) j ∧ vv M (iterY M (x - M) j) j ≤ be j ∧ Keeps M x (iterY M (x - M) j) j (Bs E j) := by
  intro j
  have hm0 := clt (show (0 : Int) < M by omega)
  induction j with
  | zero =>
    intro _
    have hv : vv M (x - M) 0 ≤ be 0 := by rw [hbe0]; exact v0_up hM hx10
    refine ⟨by show 1 ≤ x - M; omega, ?_, hv, keeps_zero (by omega)⟩
    have := rsn_nonneg 0 (show 0 ≤ x - M by omega)
    show 1 ≤ M + rsn (x - M) (0 : Nat)
    omega
  | succ j ih =>
    intro hj
    obtain ⟨y1, yp, yv, K⟩ := ih (by omega)
    have H := halving_of (show 1 ≤ M by omega) yp
    have et : ((j : Int).toNat) = j := by omega
    rw [et] at H
    obtain ⟨n1, n2, n3⟩ := H.poss y1
    show 1 ≤ iterY M (x - M) (j + 1) ∧ _
    have ei : iterY M (x - M) (j + 1) = stepY M (iterY M (x - M) j) j := rfl
    rw [ei]
    generalize iterY M (x - M) j = y at *
    have hex := Halving.rat H (h := 1 / M) (k := 1 / 2 ^ j) (v := vv M y j) (a := vv M (stepY M y j) (j + 1)) (b := (sqN (M * (M + rsn y j)) M : Int) * (1 / (M : Rat))) rfl (by rw [cast_two]) rfl (a_eq j) rfl
    obtain ⟨q, e, ev, eb, he, hq, hq0⟩ := hex
    have c := C j (by omega)
    have hhp := inv_pos hm0
    have hq' := q_case hq hq0
    obtain ⟨r1, r2, r3⟩ := pos_step c hhp hh ev eb he hq' (b_ge hM n2) (vv_ge hM (by omega)) yv
    refine ⟨n3, ?_, r1, ?_⟩
    · have := rsn_nonneg (j + 1) (show 0 ≤ stepY M y j by omega)
      omega
    · exact keeps_succ K r2 r3
end
end Lg

namespace Lg
noncomputable def nA_al (j : Nat) : Rat := ([1/10, 2955397/10000000, 5323209/10000000, 905583/1250000, 8486953/10000000, 4600183/5000000, 4792913/5000000, 9787701/10000000, 123647/125000, 4972483/5000000, 4986029/5000000] : List Rat).getD j 0
noncomputable def nA_E (j : Nat) : Rat := ([2053/500, 3337/1000, 2233/1000, 1841/1000, 1679/1000, 161/100, 1583/1000, 1577/1000, 791/500, 1591/1000] : List Rat).getD j 0
noncomputable def nA_p0 (j : Nat) : Rat := ([519/10000, 5603/10000, 2941/5000, 6053/10000, 6149/10000, 6197/10000, 6223/10000, 6237/10000, 6243/10000, 6247/10000] : List Rat).getD j 0
noncomputable def nA_p1 (j : Nat) : Rat := ([5963/10000, 2131/10000, 1683/10000, 293/2000, 1357/10000, 261/2000, 639/5000, 79/625, 629/5000, 627/5000] : List Rat).getD j 0
theorem nA_ok : ∀ j, j < 10 → NegOK (1 / 40) (2 ^ j) (1 / 2 ^ j) (if j = 0 then 0 else 1 / 2) (nA_al j) (nA_al (j + 1)) (nA_E j) (nA_p0 j) (nA_p1 j) := by decide +kernel
theorem nA_low : ∀ j, j ≤ 10 → 1 / 10 ≤ nA_al j := by decide +kernel
noncomputable def nB_al (j : Nat) : Rat := ([1/10, 3099653/10000000, 1383519/2500000, 3712039/5000000, 4304563/5000000, 4637511/5000000, 9628949/10000000, 2452963/2500000, 1981009/2000000, 9952191/10000000, 9975957/10000000] : List Rat).getD j 0
noncomputable def nB_E (j : Nat) : Rat := ([1729/500, 1463/500, 2021/1000, 843/500, 1543/1000, 739/500, 1449/1000, 359/250, 179/125, 179/125] : List Rat).getD j 0
noncomputable def nB_p0 (j : Nat) : Rat := ([279/5000, 2817/5000, 1477/2500, 6069/10000, 3079/5000, 6203/10000, 6227/10000, 3119/5000, 1561/2500, 6247/10000] : List Rat).getD j 0
noncomputable def nB_p1 (j : Nat) : Rat := ([5837/10000, 1037/5000, 103/625, 723/5000, 1347/10000, 1299/10000, 51/400, 1263/10000, 1257/10000, 627/5000] : List Rat).getD j 0
theorem nB_ok : ∀ j, j < 10 → NegOK (1 / 128) (2 ^ j) (1 / 2 ^ j) (if j = 0 then 0 else 1 / 2) (nB_al j) (nB_al (j + 1)) (nB_E j) (nB_p0 j) (nB_p1 j) := by decide +kernel
theorem nB_low : ∀ j, j ≤ 10 → 1 / 10 ≤ nB_al j := by decide +kernel
noncomputable def pA_be (j : Nat) : Rat := ([10, 3212539/1000000, 1822113/1000000, 683271/500000, 294511/250000, 5451/5000, 1046671/1000000, 204881/200000, 1012829/1000000, 25169/25000, 501783/500000] : List Rat).getD j 0
noncomputable def pA_E (j : Nat) : Rat := ([569/1000, 737/1000, 1029/1000, 1263/1000, 143/100, 389/250, 1657/1000, 349/200, 457/250, 1909/1000] : List Rat).getD j 0
noncomputable def pA_Q (j : Nat) : Rat := ([1921/2500, 2073/2500, 7977/10000, 781/1000, 3861/5000, 1919/2500, 1913/2500, 7639/10000, 477/625, 1907/2500] : List Rat).getD j 0
theorem pA_ok : ∀ j, j < 10 → PosOK (1 / 12) (2 ^ j) (1 / 2 ^ j) (if j = 0 then 0 else 1 / 2) (pA_be j) (pA_be (j + 1)) (pA_E j) (pA_Q j) := by decide +kernel
noncomputable def pB_be (j : Nat) : Rat := ([10, 316691/100000, 891139/500000, 267299/200000, 289211/250000, 537983/500000, 1037491/1000000, 254669/250000, 1009347/1000000, 1004689/1000000, 200471/200000] : List Rat).getD j 0
noncomputable def pB_E (j : Nat) : Rat := ([66/125, 703/1000, 243/250, 579/500, 1267/1000, 1329/1000, 1363/1000, 1383/1000, 349/250, 281/200] : List Rat).getD j 0
noncomputable def pB_Q (j : Nat) : Rat := ([3803/5000, 821/1000, 7869/10000, 7693/10000, 7603/10000, 3779/5000, 471/625, 1881/2500, 3759/5000, 1879/2500] : List Rat).getD j 0
theorem pB_ok : ∀ j, j < 10 → PosOK (1 / 128) (2 ^ j) (1 / 2 ^ j) (if j = 0 then 0 else 1 / 2) (pB_be j) (pB_be (j + 1)) (pB_E j) (pB_Q j) := by decide +kernel
end Lg

namespace Lg
noncomputable def wDn (M ys : Int) : Nat → Int → Int
  | 0, w => w
  | k + 1, w => wDn M ys k (divN M ((k : Int) + 1) - divN (ys * w) M)
noncomputable def sDn (u : Rat) : Nat → Rat → Rat
  | 0, s => s
  | k + 1, s => sDn u k (1 / ((k + 1 : Nat) : Rat) - u * s)
theorem sDn_P (u : Rat) : ∀ (k : Nat) (s : Rat), u * sDn u k s = P u k - (-u) ^ (k + 1) * s
  | 0, s => by simp only [sDn, P, Rat.pow_succ, Rat.pow_zero]; grind
  | k + 1, s => by
    rw [sDn, sDn_P u k, P, Rat.pow_succ (-u) (k + 1)]
    generalize (-u) ^ (k + 1) = X
    have : (0 : Rat) < ((k + 1 : Nat) : Rat) := npos (by lia)
    grind
theorem sDn_rows (u : Rat) {T : Nat} (hT : 1 ≤ T) : u * sDn u (T - 1) (1 / (T : Rat)) = P u T := by
  obtain ⟨k, rfl⟩ : ∃ k, T = k + 1 := ⟨T - 1, by lia⟩
  have e : k + 1 - 1 = k := by lia
  rw [e, sDn_P, P]
  grind
theorem divN_r {a b : Int} (hb : 0 < b) : Ab ((divN a b : Rat) - (a : Rat) / b) (1 / 2) := by
  obtain ⟨h1, h2⟩ := divN_facts (a := a) hb
  have h1 := cle h1
  have h2 := cle h2
  have hbr := clt hb
  push_cast at *
  have e : (b : Rat) * ((a : Rat) / b) = a := by grind
  constructor
  · refine le_of_mul hbr ?_; grind
  · have : (divN a b : Rat) ≤ 1 / 2 + (a : Rat) / b := by refine le_of_mul hbr ?_; grind
    grind
/-- one turn of the rows -/
theorem w_turn {M ys w k : Int} (hM : 1 ≤ M) (hk : 1 ≤ k) {s c us : Rat} (hus : us = ys * (1 / (M : Rat))) (hu : Ab us (1 / 128)) (h : Ab ((w : Rat) * (1 / M) - s) (1 / M * c)) :
    Ab (((divN M k - divN (ys * w) M : Int) : Rat) * (1 / M) - (1 / (k : Rat) - us * s)) (1 / M * ((if k = 1 then 0 else 1 / 2) + 1 / 2 + c / 128)) := by
  have hm := clt (show (0 : Int) < M by lia)
  have hkr := clt (show (0 : Int) < k by lia)
  have d1 : Ab ((divN M k : Rat) - (M : Rat) / k) (if k = 1 then 0 else 1 / 2) := by
    by_cases h1 : k = 1
    · subst h1
      rw [if_pos rfl]
      have e : divN M 1 = M := by
        have := divN_facts (a := M) (b := 1) (by decide); lia
      rw [e]
      push_cast
      constructor <;> grind
    · rw [if_neg h1]; exact divN_r (by lia)
  have d2 := divN_r (a := ys * w) (b := M) (by lia)
  have hmI := inv_pos hm
  have m := hu.mul h
  push_cast at *
  have hh : Ab (1 / (M : Rat)) (1 / M) := ⟨by grind, by grind⟩
  have r := ((hh.mul (d1.add d2.neg)).add m.neg)
  have e : 1 / (M : Rat) * ((divN M k : Rat) - (M : Rat) / k + -((divN (ys * w) M : Rat) - (ys : Rat) * w / M)) + -(us * ((w : Rat) * (1 / M) - s)) = ((divN M k : Rat) - (divN (ys * w) M : Rat)) * (1 / M) - (1 / (k : Rat) - us * s) := by
    rw [hus]
    have e1 : (M : Rat) / k = M * (1 / k) := by grind
    rw [e1]
    have e2 : 1 / (M : Rat) * (M * (1 / k)) = 1 / k := by grind
    grind
  rw [e] at r
  refine r.le ?_
  generalize (if k = 1 then (0 : Rat) else 1 / 2) = z
  grind
theorem w_all {M ys : Int} (hM : 1 ≤ M) {us : Rat} (hus : us = ys * (1 / (M : Rat))) (hu : Ab us (1 / 128)) : ∀ (k : Nat) (w : Int) (s : Rat), Ab ((w : Rat) * (1 / M) - s) (1 / M * (128 / 127)) →
    Ab ((wDn M ys (k + 1) w : Rat) * (1 / M) - sDn us (k + 1) s) (1 / M * (1 / 2 + 1 / 127))
  | 0, w, s, h => by
    have t := w_turn hM (k := 1) (by decide) hus hu h
    simp only [wDn, sDn]
    rw [if_pos rfl] at t
    have e : ((0 + 1 : Nat) : Rat) = ((1 : Int) : Rat) := by push_cast; grind
    rw [e]
    refine t.le ?_
    have := inv_pos (clt (show (0 : Int) < M by lia))
    push_cast at *
    grind
  | k + 1, w, s, h => by
    have t := w_turn hM (k := ((k + 1 : Nat) : Int) + 1) (by lia) hus hu h
    rw [wDn, sDn]
    have e : ((k + 1 + 1 : Nat) : Rat) = ((((k + 1 : Nat) : Int) + 1 : Int) : Rat) := by push_cast; rfl
    rw [e]
    refine w_all hM hus hu k _ _ (t.le ?_)
    have := inv_pos (clt (show (0 : Int) < M by lia))
    rw [if_neg (by lia)]
    push_cast at *
    have e2 : (1 / 2 + 1 / 2 + 128 / 127 / 128 : Rat) = 128 / 127 := by grind
    rw [e2]
    exact Rat.le_refl
/-- the rows at two places -/
theorem lip {u1 u2 d : Rat} (h1 : Ab u1 (1 / 128)) (h2 : Ab u2 (1 / 128)) (hd : Ab (u1 - u2) d) : ∀ (k : Nat) (s1 s2 : Rat), Ab s1 (101 / 100 * (1 / ((k + 1 : Nat) : Rat))) → Ab (s1 - s2) (d * (102 / 100 * (1 / ((k + 2 : Nat) : Rat)))) →
    Ab (sDn u1 k s1 - sDn u2 k s2) (d * (51 / 100))
  | 0, s1, s2, _, g => by
    simp only [sDn]
    refine g.le ?_
    have e : ((0 + 2 : Nat) : Rat) = 2 := by push_cast; grind
    rw [e]
    have := hd.nn
    grind
  | k + 1, s1, s2, g1, g => by
    rw [sDn, sDn]
    have d0 := hd.nn
    have e1 : ((k + 1 : Nat) : Rat) = (k : Rat) + 1 := by push_cast; rfl
    have e2 : ((k + 2 : Nat) : Rat) = (k : Rat) + 2 := by push_cast; rfl
    have e3 : ((k + 1 + 1 : Nat) : Rat) = (k : Rat) + 2 := by push_cast; grind
    have e4 : ((k + 1 + 2 : Nat) : Rat) = (k : Rat) + 3 := by push_cast; grind
    have hk : (0 : Rat) ≤ (k : Rat) := by exact_mod_cast Nat.zero_le k
    rw [e3] at g1
    rw [e4] at g
    have i12 := inv_le (show (0 : Rat) < (k : Rat) + 1 by grind) (show (k : Rat) + 1 ≤ (k : Rat) + 2 by grind)
    have i23 := inv_le (show (0 : Rat) < (k : Rat) + 2 by grind) (show (k : Rat) + 2 ≤ (k : Rat) + 3 by grind)
    have i1 := inv_pos (show (0 : Rat) < (k : Rat) + 1 by grind)
    have i2 := inv_pos (show (0 : Rat) < (k : Rat) + 2 by grind)
    have i3 := inv_pos (show (0 : Rat) < (k : Rat) + 3 by grind)
    refine lip h1 h2 hd k _ _ ?_ ?_
    · rw [e1]
      have m := h1.mul g1
      generalize 1 / ((k : Rat) + 1) = x1 at *
      generalize 1 / ((k : Rat) + 2) = x2 at *
      have x : Ab x1 x1 := ⟨by grind, by grind⟩
      have r := x.add m.neg
      have e : x1 + -(u1 * s1) = x1 - u1 * s1 := by grind
      rw [e] at r
      refine r.le ?_
      grind
    · rw [e2]
      have m1 := hd.mul g1
      have m2 := h2.mul g
      generalize 1 / ((k : Rat) + 2) = x2 at *
      generalize 1 / ((k : Rat) + 3) = x3 at *
      have r := (m1.add m2).neg
      generalize hx : 1 / ((k + 1 : Nat) : Rat) = x1
      have e : -((u1 - u2) * s1 + u2 * (s1 - s2)) = x1 - u1 * s1 - (x1 - u2 * s2) := by grind
      rw [e] at r
      refine r.le ?_
      have := Rat.mul_le_mul_of_nonneg_left i23 d0
      have := Rat.mul_nonneg d0 (show 0 ≤ x2 by grind)
      grind
theorem sDn_low {u : Rat} (h : Ab u (1 / 128)) : ∀ (k : Nat) (s : Rat), Ab s (101 / 100 * (1 / ((k + 1 : Nat) : Rat))) → (k = 0 → 99 / 100 ≤ s) → 99 / 100 ≤ sDn u k s
  | 0, s, _, h0 => by simpa only [sDn] using h0 rfl
  | k + 1, s, g, _ => by
    rw [sDn]
    have e1 : ((k + 1 : Nat) : Rat) = (k : Rat) + 1 := by push_cast; rfl
    have e3 : ((k + 1 + 1 : Nat) : Rat) = (k : Rat) + 2 := by push_cast; grind
    have hk : (0 : Rat) ≤ (k : Rat) := by exact_mod_cast Nat.zero_le k
    have i12 := inv_le (show (0 : Rat) < (k : Rat) + 1 by grind) (show (k : Rat) + 1 ≤ (k : Rat) + 2 by grind)
    have i1 := inv_pos (show (0 : Rat) < (k : Rat) + 1 by grind)
    have i2 := inv_pos (show (0 : Rat) < (k : Rat) + 2 by grind)
    rw [e3] at g
    have m := h.mul g
    refine sDn_low h k _ ?_ ?_
    · rw [e1]
      generalize 1 / ((k : Rat) + 1) = x1 at *
      generalize 1 / ((k : Rat) + 2) = x2 at *
      have x : Ab x1 x1 := ⟨by grind, by grind⟩
      have r := x.add m.neg
      have e : x1 + -(u * s) = x1 - u * s := by grind
      rw [e] at r
      refine r.le ?_
      grind
    · intro hk0
      subst hk0
      have y := inv_le (show (0 : Rat) < 2 by grind) (show (2 : Rat) ≤ ((0 : Nat) : Rat) + 2 by push_cast; grind)
      obtain ⟨_, b⟩ := m
      have e : 1 / ((0 + 1 : Nat) : Rat) = 1 := by push_cast; grind
      rw [e]
      grind
end Lg

namespace Lg
noncomputable def ilogFin (M y R : Int) (T : Nat) : Int := divN (wDn M (rsn y R) (T - 1) (divN M T) * y) M
theorem pow_le_sq {g : Rat} (h0 : 0 ≤ g) (h1 : g ≤ 1) {T : Nat} (hT : 2 ≤ T) : g ^ T ≤ g * g := by
  obtain ⟨k, rfl⟩ : ∃ k, T = k + 2 := ⟨T - 2, by lia⟩
  have p := pow_le_pow h0 h1 k
  rw [one_pow] at p
  rw [Rat.pow_succ, Rat.pow_succ]
  have := Rat.mul_le_mul_of_nonneg_left p (Rat.mul_nonneg h0 h0)
  grind
/-- the rows left out -/
theorem rows_tr {u c : Rat} (hc : c ≤ 1 / 256) (hu : Ab u c) (T : Nat) :
    LO (P u T - c ^ T * c * (1 / ((T + 1 : Nat) : Rat) + 1 / 255)) (1 + u) ∧ UP (P u T + c ^ T * c * (1 / ((T + 1 : Nat) : Rat) + 1 / 255)) (1 + u) := by
  have c0 := hu.nn
  have l := LO.rows (by grind) hu (T + 1)
  have r := UP.rows (by grind) hu (T + 1)
  have hk := inv_pos (npos (show 0 < T + 1 by lia))
  have a := hu.neg.pow (T + 1)
  have b : Ab (1 / ((T + 1 : Nat) : Rat)) (1 / ((T + 1 : Nat) : Rat)) := ⟨by grind, by grind⟩
  have ab := a.mul b
  have e : P u (T + 1) = P u T - (-u) ^ (T + 1) * (1 / ((T + 1 : Nat) : Rat)) := by rw [P]; grind
  have hX := pow_nonneg c0 T
  have i := inv_le (show (0 : Rat) < 255 / 256 by grind) (show 255 / 256 ≤ 1 - c by grind)
  rw [e] at l r
  rw [Rat.pow_succ c T] at ab
  have e2 : c ^ (T + 1 + 1) / (1 - c) = c ^ T * c * c * (1 / (1 - c)) := by rw [Rat.pow_succ, Rat.pow_succ]; grind
  rw [e2] at l r
  have m : c ^ T * c * (c * (1 / (1 - c))) ≤ c ^ T * c * (1 / 255) := by
    refine Rat.mul_le_mul_of_nonneg_left ?_ (Rat.mul_nonneg hX c0)
    have := mul_le_mul hc i c0 (by grind)
    grind
  generalize 1 / (1 - c) = w at *
  generalize 1 / ((T + 1 : Nat) : Rat) = k at *
  generalize c ^ T = X at *
  generalize (-u) ^ (T + 1) * k = Z at *
  obtain ⟨z1, z2⟩ := ab
  constructor
  · refine l.mono ?_ (Rat.le_refl); grind
  · refine r.mono ?_ (Rat.le_refl); grind
section
variable {M y : Int} {R T : Nat} {Y fin : Rat}
theorem u_eq (hM : 1 ≤ M) : (y : Rat) = 2 ^ R * M * ((y : Rat) * (1 / 2 ^ R) * (1 / M)) := by
  have := two_pos R
  have := clt (show (0 : Int) < M by lia)
  have e1 : (2 : Rat) ^ R * (1 / 2 ^ R) = 1 := by grind
  have e2 : (M : Rat) * (1 / M) = 1 := by push_cast at *; grind
  have : 2 ^ R * M * ((y : Rat) * (1 / 2 ^ R) * (1 / M)) = (2 ^ R * (1 / 2 ^ R)) * (M * (1 / M)) * y := by grind
  rw [this, e1, e2]; grind
/-- from a bound of the answer to bounds of the logarithm -/
theorem close {told tr : Rat} (hM : 1 ≤ M) (hu : LO (P ((y : Rat) * (1 / 2 ^ R) * (1 / M)) T - tr) (vv M y R) ∧ UP (P ((y : Rat) * (1 / 2 ^ R) * (1 / M)) T + tr) (vv M y R))
    {d : Rat} (hd : Ab (told - 2 ^ R * M * P ((y : Rat) * (1 / 2 ^ R) * (1 / M)) T) d) (hf : d + 2 ^ R * M * tr ≤ fin) :
    LO ((told - fin) * (1 / M) * (1 / 2 ^ R)) (vv M y R) ∧ UP ((told + fin) * (1 / M) * (1 / 2 ^ R)) (vv M y R) := by
  have h2 := two_pos R
  have hm := clt (show (0 : Int) < M by lia)
  push_cast at hm
  have hp := Rat.mul_pos h2 hm
  generalize P ((y : Rat) * (1 / 2 ^ R) * (1 / M)) T = PP at *
  obtain ⟨d1, d2⟩ := hd
  have e (z : Rat) : 2 ^ R * (M : Rat) * (z * (1 / M) * (1 / 2 ^ R)) = z := by
    have e1 : (2 : Rat) ^ R * (1 / 2 ^ R) = 1 := by grind
    have e2 : (M : Rat) * (1 / M) = 1 := by grind
    have : 2 ^ R * (M : Rat) * (z * (1 / M) * (1 / 2 ^ R)) = (2 ^ R * (1 / 2 ^ R)) * (M * (1 / M)) * z := by grind
    rw [this, e1, e2]; grind
  constructor
  · refine hu.1.mono (le_of_mul hp ?_) (Rat.le_refl)
    rw [e]; grind
  · refine hu.2.mono (le_of_mul hp ?_) (Rat.le_refl)
    rw [e]; grind
theorem w_facts (hM : 128 ≤ M) (hT : 1 ≤ T) (hus : Ab ((rsn y R : Rat) * (1 / M)) (1 / 128)) (hu : Ab ((y : Rat) * (1 / 2 ^ R) * (1 / M)) (1 / 128)) :
    Ab ((wDn M (rsn y R) (T - 1) (divN M T) : Rat) * (1 / M) - sDn ((y : Rat) * (1 / 2 ^ R) * (1 / M)) (T - 1) (1 / (T : Rat))) (1 / M * (763 / 1000)) ∧
    98 / 100 ≤ (wDn M (rsn y R) (T - 1) (divN M T) : Rat) * (1 / M) := by
  have hm := clt (show (0 : Int) < M by lia)
  have hmi := inv_pos hm
  have hTp := npos (show 0 < T by lia)
  have hTi := inv_pos hTp
  have w0 : Ab ((divN M T : Rat) * (1 / M) - 1 / (T : Rat)) (1 / M * (128 / 127)) := by
    have d := divN_r (a := M) (b := (T : Int)) (by lia)
    have hh : Ab (1 / (M : Rat)) (1 / M) := ⟨by grind, by grind⟩
    have r := hh.mul d
    have ec : (((T : Nat) : Int) : Rat) = (T : Rat) := by norm_cast
    rw [ec] at r
    have e : 1 / (M : Rat) * ((divN M T : Rat) - (M : Rat) / T) = (divN M T : Rat) * (1 / M) - 1 / (T : Rat) := by
      have e1 : (M : Rat) / T = M * (1 / T) := by grind
      rw [e1]
      have e2 : 1 / (M : Rat) * (M * (1 / T)) = 1 / T := by push_cast at *; grind
      grind
    rw [e] at r
    refine r.le ?_
    grind
  have wl : Ab ((wDn M (rsn y R) (T - 1) (divN M T) : Rat) * (1 / M) - sDn ((rsn y R : Rat) * (1 / M)) (T - 1) (1 / (T : Rat))) (1 / M * (1 / 2 + 1 / 127)) := by
    rcases Nat.lt_or_ge 1 T with h | h
    · have := w_all (show 1 ≤ M by lia) (us := (rsn y R : Rat) * (1 / M)) (ys := rsn y R) rfl hus (T - 2) (divN M T) (1 / (T : Rat)) w0
      rwa [show T - 2 + 1 = T - 1 by lia] at this
    · have h1 : T = 1 := by lia
      subst h1
      simp only [Nat.sub_self, wDn, sDn]
      have e : divN M ((1 : Nat) : Int) = M := by
        have := divN_facts (a := M) (b := ((1 : Nat) : Int)) (by decide); lia
      rw [e]
      have e2 : (M : Rat) * (1 / M) = 1 := by push_cast at *; grind
      rw [e2]
      push_cast at *
      constructor <;> grind
  have du : Ab ((rsn y R : Rat) * (1 / M) - (y : Rat) * (1 / 2 ^ R) * (1 / M)) (1 / M * (1 / 2)) := by
    obtain ⟨r1, r2⟩ := rsn_low (y := y) R
    have x : Ab ((rsn y R : Rat) - (y : Rat) * (1 / 2 ^ R)) (1 / 2) := ⟨by grind, by grind⟩
    have hh : Ab (1 / (M : Rat)) (1 / M) := ⟨by grind, by grind⟩
    have r := hh.mul x
    have e : 1 / (M : Rat) * ((rsn y R : Rat) - (y : Rat) * (1 / 2 ^ R)) = (rsn y R : Rat) * (1 / M) - (y : Rat) * (1 / 2 ^ R) * (1 / M) := by grind
    rwa [e] at r
  have eT : ((T - 1 + 1 : Nat) : Rat) = (T : Rat) := by congr 1; lia
  have sT : Ab (1 / (T : Rat)) (101 / 100 * (1 / ((T - 1 + 1 : Nat) : Rat))) := by
    rw [eT]; constructor <;> grind
  have i2 := inv_pos (npos (show 0 < T - 1 + 2 by lia))
  have lp := lip hus hu du (T - 1) (1 / (T : Rat)) (1 / (T : Rat)) sT (by
    have := Rat.mul_nonneg (show 0 ≤ 1 / (M : Rat) by grind) (show 0 ≤ 1 / ((T - 1 + 2 : Nat) : Rat) by grind)
    constructor <;> grind)
  have lw := sDn_low hus (T - 1) (1 / (T : Rat)) sT (by
    intro h
    have : T = 1 := by lia
    subst this
    push_cast; grind)
  constructor
  · have r := wl.add lp
    have e : (wDn M (rsn y R) (T - 1) (divN M T) : Rat) * (1 / M) - sDn ((rsn y R : Rat) * (1 / M)) (T - 1) (1 / (T : Rat)) + (sDn ((rsn y R : Rat) * (1 / M)) (T - 1) (1 / (T : Rat)) - sDn ((y : Rat) * (1 / 2 ^ R) * (1 / M)) (T - 1) (1 / (T : Rat))) = (wDn M (rsn y R) (T - 1) (divN M T) : Rat) * (1 / M) - sDn ((y : Rat) * (1 / 2 ^ R) * (1 / M)) (T - 1) (1 / (T : Rat)) := by grind
    rw [e] at r
    refine r.le ?_
    grind
  · obtain ⟨x1, x2⟩ := wl
    have : 1 / (M : Rat) ≤ 1 / 128 := by
      have hc := cle hM
      push_cast at *
      exact inv_le (by grind) hc
    grind
theorem fin_big (hM : 128 ≤ M) (hT : 2 ≤ T) (hMT : (M : Rat) ≤ 256 ^ T) (hY : Ab ((y : Rat) * (1 / M)) Y) (hYR : 256 * Y ≤ 2 ^ R)
    (hfin : 1 / 2 + Y * (763 / 1000) + Y * ((256 * Y * (1 / 2 ^ R)) * (256 * Y * (1 / 2 ^ R))) * (1 / 3 + 1 / 255) ≤ fin) :
    LO ((ilogFin M y R T - fin) * (1 / M) * (1 / 2 ^ R)) (vv M y R) ∧ UP ((ilogFin M y R T + fin) * (1 / M) * (1 / 2 ^ R)) (vv M y R) ∧
    (1 ≤ y → 1 ≤ ilogFin M y R T) ∧ (y ≤ -1 → ilogFin M y R T ≤ -1) := by
  have hm := clt (show (0 : Int) < M by lia)
  have hmc := cle hM
  push_cast at hm hmc
  have hmi := inv_pos hm
  have h2 := two_pos R
  have h2i := inv_pos h2
  have Y0 := hY.nn
  have hmi2 : 1 / (M : Rat) ≤ 1 / 128 := inv_le (by grind) hmc
  -- u
  have uc : Ab ((y : Rat) * (1 / 2 ^ R) * (1 / M)) (Y * (1 / 2 ^ R)) := by
    have x : Ab (1 / 2 ^ R : Rat) (1 / 2 ^ R) := ⟨by grind, by grind⟩
    have r := hY.mul x
    have e : (y : Rat) * (1 / M) * (1 / 2 ^ R) = (y : Rat) * (1 / 2 ^ R) * (1 / M) := by grind
    rwa [e] at r
  have c256 : Y * (1 / 2 ^ R) ≤ 1 / 256 := by
    refine le_of_mul h2 ?_
    have : (2 : Rat) ^ R * (Y * (1 / 2 ^ R)) = Y := by grind
    grind
  have hu := uc.le (show Y * (1 / 2 ^ R) ≤ 1 / 128 by grind)
  have hus : Ab ((rsn y R : Rat) * (1 / M)) (1 / 128) := by
    obtain ⟨r1, r2⟩ := rsn_low (y := y) R
    have x : Ab ((rsn y R : Rat) - (y : Rat) * (1 / 2 ^ R)) (1 / 2) := ⟨by grind, by grind⟩
    have hh : Ab (1 / (M : Rat)) (1 / M) := ⟨by grind, by grind⟩
    have r := (hh.mul x).add uc
    have e : 1 / (M : Rat) * ((rsn y R : Rat) - (y : Rat) * (1 / 2 ^ R)) + (y : Rat) * (1 / 2 ^ R) * (1 / M) = (rsn y R : Rat) * (1 / M) := by grind
    rw [e] at r
    exact r.le (by grind)
  obtain ⟨wf, wl⟩ := w_facts hM (show 1 ≤ T by lia) hus hu
  have dn := divN_r (a := wDn M (rsn y R) (T - 1) (divN M T) * y) (b := M) (by lia)
  have eP := sDn_rows ((y : Rat) * (1 / 2 ^ R) * (1 / M)) (show 1 ≤ T by lia)
  have eu := u_eq (y := y) (R := R) (show 1 ≤ M by lia)
  have rt := rows_tr c256 uc T
  have i3 : 1 / ((T + 1 : Nat) : Rat) ≤ 1 / 3 := by
    have : ((3 : Nat) : Rat) ≤ ((T + 1 : Nat) : Rat) := Rat.natCast_le_natCast.mpr (by lia)
    have e3 : ((3 : Nat) : Rat) = 3 := by push_cast; rfl
    rw [e3] at this
    exact inv_le (by grind) this
  -- M c^T
  have mc : (M : Rat) * (Y * (1 / 2 ^ R)) ^ T ≤ (256 * Y * (1 / 2 ^ R)) * (256 * Y * (1 / 2 ^ R)) := by
    have p0 := pow_nonneg uc.nn T
    have a := Rat.mul_le_mul_of_nonneg_left hMT p0
    have b : (Y * (1 / 2 ^ R)) ^ T * 256 ^ T = (256 * Y * (1 / 2 ^ R)) ^ T := by
      rw [← mul_pow]; congr 1; grind
    rw [b] at a
    have c := pow_le_sq (g := 256 * Y * (1 / 2 ^ R)) (by have := uc.nn; grind) (by grind) hT
    grind
  have hvv : vv M y R = 1 + (y : Rat) * (1 / 2 ^ R) * (1 / M) := rfl
  unfold ilogFin
  rw [← hvv] at rt
  have dd : Ab ((divN (wDn M (rsn y R) (T - 1) (divN M T) * y) M : Rat) - 2 ^ R * M * P ((y : Rat) * (1 / 2 ^ R) * (1 / M)) T) (1 / 2 + Y * (763 / 1000)) := by
    have m := hY.mul (wf)
    have e1 : 2 ^ R * (M : Rat) * P ((y : Rat) * (1 / 2 ^ R) * (1 / M)) T = y * sDn ((y : Rat) * (1 / 2 ^ R) * (1 / M)) (T - 1) (1 / (T : Rat)) := by
      rw [← eP]
      have : 2 ^ R * (M : Rat) * ((y : Rat) * (1 / 2 ^ R) * (1 / M) * sDn ((y : Rat) * (1 / 2 ^ R) * (1 / M)) (T - 1) (1 / (T : Rat))) = (2 ^ R * M * ((y : Rat) * (1 / 2 ^ R) * (1 / M))) * sDn ((y : Rat) * (1 / 2 ^ R) * (1 / M)) (T - 1) (1 / (T : Rat)) := by grind
      rw [this, ← eu]
    rw [e1]
    generalize sDn ((y : Rat) * (1 / 2 ^ R) * (1 / M)) (T - 1) (1 / (T : Rat)) = S at *
    generalize wDn M (rsn y R) (T - 1) (divN M T) = w at *
    push_cast at dn
    have k : Ab ((y : Rat) * (w * (1 / M) - S)) (Y * (763 / 1000)) := by
      have hM1 : Ab (M : Rat) M := ⟨by grind, by grind⟩
      have r := m.mul hM1
      have e2 : (y : Rat) * (1 / M) * (w * (1 / M) - S) * M = (y : Rat) * (w * (1 / M) - S) := by grind
      have e3 : Y * (1 / M * (763 / 1000)) * M = Y * (763 / 1000) := by grind
      rwa [e2, e3] at r
    have r := dn.add k
    have e4 : (divN (w * y) M : Rat) - w * y / M + (y : Rat) * (w * (1 / M) - S) = (divN (w * y) M : Rat) - y * S := by grind
    rwa [e4] at r
  have cl := close (fin := fin) (show 1 ≤ M by lia) rt dd (by
    refine Rat.le_trans ?_ hfin
    have t0 := Rat.mul_le_mul_of_nonneg_left (show 1 / ((T + 1 : Nat) : Rat) + 1 / 255 ≤ 1 / 3 + 1 / 255 by grind) (Rat.mul_nonneg Y0 (Rat.mul_nonneg (show (0 : Rat) ≤ M by grind) (pow_nonneg uc.nn T)))
    have t1 := Rat.mul_le_mul_of_nonneg_left mc Y0
    have e5 : 2 ^ R * (M : Rat) * ((Y * (1 / 2 ^ R)) ^ T * (Y * (1 / 2 ^ R)) * (1 / ((T + 1 : Nat) : Rat) + 1 / 255)) = Y * (M * (Y * (1 / 2 ^ R)) ^ T) * (1 / ((T + 1 : Nat) : Rat) + 1 / 255) := by
      have e6 : (2 : Rat) ^ R * (1 / 2 ^ R) = 1 := by grind
      have : 2 ^ R * (M : Rat) * ((Y * (1 / 2 ^ R)) ^ T * (Y * (1 / 2 ^ R)) * (1 / ((T + 1 : Nat) : Rat) + 1 / 255)) = (2 ^ R * (1 / 2 ^ R)) * (Y * (M * (Y * (1 / 2 ^ R)) ^ T) * (1 / ((T + 1 : Nat) : Rat) + 1 / 255)) := by grind
      rw [this, e6]; grind
    rw [e5]
    generalize (Y * (1 / 2 ^ R)) ^ T = X at *
    generalize 256 * Y * (1 / 2 ^ R) = g at *
    grind)
  have hw2 : M < 2 * wDn M (rsn y R) (T - 1) (divN M T) := by
    generalize wDn M (rsn y R) (T - 1) (divN M T) = w at *
    have m := Rat.mul_le_mul_of_nonneg_left wl (show (0 : Rat) ≤ M by grind)
    have : (M : Rat) * (w * (1 / M)) = w := by grind
    have : (M : Rat) < 2 * w := by grind
    have : ((M : Int) : Rat) < ((2 * w : Int) : Rat) := by push_cast; grind
    exact Rat.intCast_lt_intCast.mp this
  refine ⟨cl.1, cl.2, fun hy => ?_, fun hy => ?_⟩
  · generalize wDn M (rsn y R) (T - 1) (divN M T) = w at *
    have f := divN_facts (a := w * y) (b := M) (by lia)
    have := Int.mul_le_mul_of_nonneg_left hy (show 0 ≤ w by lia)
    rcases Int.lt_or_le (divN (w * y) M) 1 with x | x
    · have := Int.mul_nonneg (show 0 ≤ M by lia) (show 0 ≤ -(divN (w * y) M) by lia)
      rw [Int.mul_neg] at this
      lia
    · exact x
  · generalize wDn M (rsn y R) (T - 1) (divN M T) = w at *
    have f := divN_facts (a := w * y) (b := M) (by lia)
    have := Int.mul_le_mul_of_nonneg_left hy (show 0 ≤ w by lia)
    rcases Int.lt_or_le (-1) (divN (w * y) M) with x | x
    · have := Int.mul_nonneg (show 0 ≤ M by lia) (show 0 ≤ divN (w * y) M by lia)
      lia
    · exact x
end
end Lg

namespace Lg
theorem wDn_zero {M : Int} (hM : 1 ≤ M) : ∀ (k : Nat) (w : Int), wDn M 0 (k + 1) w = M
  | 0, w => by
    simp only [wDn]
    have a := divN_facts (a := M) (b := 1) (by decide)
    have b := divN_facts (a := 0 * w) (b := M) (by lia)
    have e : divN M (((0 : Nat) : Int) + 1) = divN M 1 := rfl
    have : divN (0 * w) M = 0 := by
      rw [Int.zero_mul] at *
      rcases Int.lt_trichotomy (divN 0 M) 0 with x | x | x
      · have := Int.mul_le_mul_of_nonneg_left (show divN 0 M ≤ -1 by lia) (show 0 ≤ M by lia); lia
      · exact x
      · have := Int.mul_le_mul_of_nonneg_left (show 1 ≤ divN 0 M by lia) (show 0 ≤ M by lia); lia
    rw [this, e]
    lia
  | k + 1, w => by rw [wDn]; exact wDn_zero hM k _
theorem divN_one {M : Int} : divN M ((1 : Nat) : Int) = M := by
  have := divN_facts (a := M) (b := ((1 : Nat) : Int)) (by decide); lia
theorem divN_mul {M y : Int} (hM : 1 ≤ M) : divN (M * y) M = y := by
  have b := divN_facts (a := M * y) (b := M) (by lia)
  rcases Int.lt_trichotomy (divN (M * y) M) y with x | x | x
  · have := Int.mul_le_mul_of_nonneg_left (show divN (M * y) M ≤ y - 1 by lia) (show 0 ≤ M by lia)
    rw [Int.mul_sub] at this; lia
  · exact x
  · have := Int.mul_le_mul_of_nonneg_left (show y + 1 ≤ divN (M * y) M by lia) (show 0 ≤ M by lia)
    rw [Int.mul_add] at this; lia
theorem fin_eq {M y : Int} {R T : Nat} (hM : 1 ≤ M) (hT : 1 ≤ T) (h : rsn y R = 0) : ilogFin M y R T = y := by
  unfold ilogFin
  rw [h]
  have : wDn M 0 (T - 1) (divN M T) = M := by
    rcases Nat.lt_or_ge 1 T with x | x
    · rw [show T - 1 = T - 2 + 1 by lia]; exact wDn_zero hM _ _
    · have : T = 1 := by lia
      subst this
      simp only [Nat.sub_self, wDn]
      exact divN_one
  rw [this]
  exact divN_mul hM
theorem rsn_is_zero {M y : Int} {R : Nat} (hM : M ≤ 128) (h : (y.natAbs : Int) * 256 < M * 2 ^ R) : rsn y R = 0 := by
  have r := divN_facts (a := y) (pw_pos (R : Int).toNat)
  rw [← rsn_divN] at r
  have e : ((R : Int).toNat) = R := by lia
  rw [e] at r
  have p := pw_pos R
  generalize (2 : Int) ^ R = K at *
  have m := Int.mul_le_mul_of_nonneg_right hM (show 0 ≤ K by lia)
  rcases Int.lt_trichotomy (rsn y R) 0 with x | x | x
  · have := Int.mul_le_mul_of_nonneg_left (show rsn y R ≤ -1 by lia) (show 0 ≤ K by lia); lia
  · exact x
  · have := Int.mul_le_mul_of_nonneg_left (show 1 ≤ rsn y R by lia) (show 0 ≤ K by lia); lia
theorem fin_small {M y : Int} {R : Nat} {Y fin : Rat} (hM : 1 ≤ M) (hY : Ab ((y : Rat) * (1 / M)) Y) (hYR : 256 * Y ≤ 2 ^ R)
    (hfin : M * Y * (Y * (1 / 2 ^ R)) * (1 / 2 + 1 / 255) ≤ fin) :
    LO ((y - fin) * (1 / M) * (1 / 2 ^ R)) (vv M y R) ∧ UP ((y + fin) * (1 / M) * (1 / 2 ^ R)) (vv M y R) := by
  have hm := clt (show (0 : Int) < M by lia)
  push_cast at hm
  have h2 := two_pos R
  have h2i := inv_pos h2
  have uc : Ab ((y : Rat) * (1 / 2 ^ R) * (1 / M)) (Y * (1 / 2 ^ R)) := by
    have x : Ab (1 / 2 ^ R : Rat) (1 / 2 ^ R) := ⟨by grind, by grind⟩
    have r := hY.mul x
    have e : (y : Rat) * (1 / M) * (1 / 2 ^ R) = (y : Rat) * (1 / 2 ^ R) * (1 / M) := by grind
    rwa [e] at r
  have c256 : Y * (1 / 2 ^ R) ≤ 1 / 256 := by
    refine le_of_mul h2 ?_
    have : (2 : Rat) ^ R * (Y * (1 / 2 ^ R)) = Y := by grind
    grind
  have rt := rows_tr c256 uc 1
  have hvv : vv M y R = 1 + (y : Rat) * (1 / 2 ^ R) * (1 / M) := rfl
  rw [← hvv] at rt
  have eu := u_eq (y := y) (R := R) (show 1 ≤ M by lia)
  refine close (told := (y : Rat)) (d := 0) hM rt ?_ ?_
  · have e1 : P ((y : Rat) * (1 / 2 ^ R) * (1 / M)) 1 = (y : Rat) * (1 / 2 ^ R) * (1 / M) := by
      simp only [P, Rat.pow_succ, Rat.pow_zero]
      push_cast
      grind
    rw [e1, ← eu]
    constructor <;> grind
  · refine Rat.le_trans ?_ hfin
    have e6 : (2 : Rat) ^ R * (1 / 2 ^ R) = 1 := by grind
    have ec : ((1 + 1 : Nat) : Rat) = 2 := by push_cast; grind
    rw [ec]
    have ep : (Y * (1 / 2 ^ R)) ^ 1 = Y * (1 / 2 ^ R) := by rw [Rat.pow_succ, Rat.pow_zero]; grind
    rw [ep]
    have : (0 : Rat) + 2 ^ R * M * (Y * (1 / 2 ^ R) * (Y * (1 / 2 ^ R)) * (1 / 2 + 1 / 255)) = (2 ^ R * (1 / 2 ^ R)) * (M * Y * (Y * (1 / 2 ^ R)) * (1 / 2 + 1 / 255)) := by grind
    rw [this, e6]
    grind
/-- what the halvings keep and what the rows give, put together -/
theorem combine {M x y : Int} {R : Nat} {B fin far told : Rat} (hM : 1 ≤ M) (K : Keeps M x y R B)
    (cl : LO ((told - fin) * (1 / M) * (1 / 2 ^ R)) (vv M y R) ∧ UP ((told + fin) * (1 / M) * (1 / 2 ^ R)) (vv M y R)) (h : B + fin ≤ far) :
    LO ((told - far) * (1 / M)) ((x : Rat) / M) ∧ UP ((told + far) * (1 / M)) ((x : Rat) / M) := by
  have hm := inv_pos (clt (show (0 : Int) < M by lia))
  have h2 := two_pos R
  have e6 : (2 : Rat) ^ R * (1 / 2 ^ R) = 1 := by grind
  have e (z : Rat) : (2 : Rat) ^ R * (z * (1 / M) * (1 / 2 ^ R)) = z * (1 / M) := by
    have : (2 : Rat) ^ R * (z * (1 / M) * (1 / 2 ^ R)) = (2 ^ R * (1 / 2 ^ R)) * (z * (1 / M)) := by grind
    rw [this, e6]; grind
  have m := Rat.mul_le_mul_of_nonneg_left h (show (0 : Rat) ≤ 1 / M by push_cast at *; grind)
  constructor
  · refine (K.1 _ cl.1).mono ?_ (Rat.le_refl)
    rw [e]; grind
  · refine (K.2 _ cl.2).mono ?_ (Rat.le_refl)
    rw [e]; grind
theorem Bs_mono {E : Nat → Rat} (hE : ∀ j, j < 10 → 0 ≤ E j) : ∀ j, j ≤ 10 → Bs E j ≤ Bs E 10 := by
  have step : ∀ i, i ≤ 10 → Bs E (10 - i) ≤ Bs E 10 := by
    intro i
    induction i with
    | zero => intro _; exact Rat.le_refl
    | succ i ih =>
      intro hi
      have a := ih (by lia)
      have e : 10 - i = (10 - (i + 1)) + 1 := by lia
      rw [e, Bs] at a
      have := hE (10 - (i + 1)) (by lia)
      grind
  intro j hj
  have := step (10 - j) (by lia)
  rwa [show 10 - (10 - j) = j by lia] at this
/-- the loop's test, as the program asks it -/
noncomputable def Again (M y : Int) (R : Nat) : Prop := M * 2 ^ R ≤ (y.natAbs : Int) * 256
theorem y_of_not {M y : Int} {R : Nat} (hM : 1 ≤ M) (h : ¬ Again M y R) : Ab ((y : Rat) * (1 / M)) (2 ^ R * (1 / 256)) := by
  have hm := clt (show (0 : Int) < M by lia)
  unfold Again at h
  have h1 : y * 256 ≤ M * 2 ^ R := by lia
  have h2 : -(M * 2 ^ R) ≤ y * 256 := by lia
  have h1 := cle h1
  have h2 := cle h2
  push_cast at *
  constructor
  · refine le_of_mul hm ?_
    have : (M : Rat) * ((y : Rat) * (1 / M)) = y := by grind
    grind
  · refine le_of_mul hm ?_
    have : (M : Rat) * ((y : Rat) * (1 / M)) = y := by grind
    grind
theorem two_le {R : Nat} (h : R ≤ 9) : (2 : Rat) ^ R ≤ 512 := by
  have : ∀ r, r ≤ 9 → (2 : Rat) ^ r ≤ 512 := by decide +kernel
  exact this R h
end Lg

namespace Lg
noncomputable def Good (M x told : Int) (far : Rat) : Prop := LO (((told : Rat) - far) * (1 / M)) ((x : Rat) / M) ∧ UP (((told : Rat) + far) * (1 / M)) ((x : Rat) / M)
theorem y_neg {M y : Int} {R : Nat} {al : Rat} (hM : 1 ≤ M) (hv : al ≤ vv M y R) (hy : y ≤ 0) : Ab ((y : Rat) * (1 / M)) ((1 - al) * 2 ^ R) := by
  have hm := clt (show (0 : Int) < M by lia)
  have hmi := inv_pos hm
  have h2 := two_pos R
  have z := cle hy
  unfold vv at hv
  push_cast at *
  have m := Rat.mul_le_mul_of_nonneg_left hv (show (0 : Rat) ≤ 2 ^ R by grind)
  have e : (2 : Rat) ^ R * (1 + (y : Rat) * (1 / 2 ^ R) * (1 / M)) = 2 ^ R + y * (1 / M) := by
    have e6 : (2 : Rat) ^ R * (1 / 2 ^ R) = 1 := by grind
    have : (2 : Rat) ^ R * (1 + (y : Rat) * (1 / 2 ^ R) * (1 / M)) = 2 ^ R + (2 ^ R * (1 / 2 ^ R)) * (y * (1 / M)) := by grind
    rw [this, e6]; grind
  rw [e] at m
  have n := Rat.mul_nonneg (show (0 : Rat) ≤ -y by grind) (show (0 : Rat) ≤ 1 / M by grind)
  constructor <;> grind
theorem y_pos {M y : Int} {R : Nat} {be : Rat} (hM : 1 ≤ M) (hv : vv M y R ≤ be) (hy : 0 ≤ y) : Ab ((y : Rat) * (1 / M)) ((be - 1) * 2 ^ R) := by
  have hm := clt (show (0 : Int) < M by lia)
  have hmi := inv_pos hm
  have h2 := two_pos R
  have z := cle hy
  unfold vv at hv
  push_cast at *
  have m := Rat.mul_le_mul_of_nonneg_left hv (show (0 : Rat) ≤ 2 ^ R by grind)
  have e : (2 : Rat) ^ R * (1 + (y : Rat) * (1 / 2 ^ R) * (1 / M)) = 2 ^ R + y * (1 / M) := by
    have e6 : (2 : Rat) ^ R * (1 / 2 ^ R) = 1 := by grind
    have : (2 : Rat) ^ R * (1 + (y : Rat) * (1 / 2 ^ R) * (1 / M)) = 2 ^ R + (2 ^ R * (1 / 2 ^ R)) * (y * (1 / M)) := by grind
    rw [this, e6]; grind
  rw [e] at m
  have n := Rat.mul_nonneg (show (0 : Rat) ≤ y by grind) (show (0 : Rat) ≤ 1 / M by grind)
  constructor <;> grind
theorem not_again {M y : Int} {Y : Rat} (hM : 1 ≤ M) (h : Ab ((y : Rat) * (1 / M)) Y) (hY : Y < 4) : ¬ Again M y 10 := by
  intro g
  unfold Again at g
  have hm := clt (show (0 : Int) < M by lia)
  have g := cle g
  have e : (M : Rat) * ((y : Rat) * (1 / M)) = y := by push_cast at *; grind
  obtain ⟨a, b⟩ := h
  have b' := Rat.mul_le_mul_of_nonneg_left b (show (0 : Rat) ≤ M by push_cast at *; grind)
  have a' := Rat.mul_le_mul_of_nonneg_left a (show (0 : Rat) ≤ M by push_cast at *; grind)
  rw [e] at a' b'
  have c : ((y.natAbs : Int) : Rat) ≤ M * Y := by
    rcases Int.le_total 0 y with h | h
    · rw [Int.natAbs_of_nonneg h]; exact b'
    · rw [Int.ofNat_natAbs_of_nonpos h]; push_cast; grind
  have k := Rat.mul_pos (show (0 : Rat) < M by push_cast at *; grind) (show 0 < 4 - Y by grind)
  push_cast at *
  grind
/-- the last rows' bound in the two cases, M from 128 on -/
theorem fin_cases {M y : Int} {R T : Nat} {Y : Rat} (hM : 128 ≤ M) (hT : 2 ≤ T) (hMT : (M : Rat) ≤ 256 ^ T) (hR : R ≤ 10) (hA : ¬ Again M y R) (h10 : R = 10 → Ab ((y : Rat) * (1 / M)) Y) (hY : Y ≤ 5 / 2) :
    LO ((ilogFin M y R T - 11 / 4) * (1 / M) * (1 / 2 ^ R)) (vv M y R) ∧ UP ((ilogFin M y R T + 11 / 4) * (1 / M) * (1 / 2 ^ R)) (vv M y R) ∧
    (1 ≤ y → 1 ≤ ilogFin M y R T) ∧ (y ≤ -1 → ilogFin M y R T ≤ -1) := by
  by_cases h : R = 10
  · have yb := (h10 h).le hY
    subst h
    have e2 : (2 : Rat) ^ 10 = 1024 := by decide +kernel
    refine fin_big hM hT hMT yb (by rw [e2]; grind) (by rw [e2]; grind)
  · have yb := y_of_not (show 1 ≤ M by lia) hA
    have t := two_le (show R ≤ 9 by lia)
    have h2 := two_pos R
    have e6 : (256 : Rat) * (2 ^ R * (1 / 256)) * (1 / 2 ^ R) = 1 := by grind
    refine fin_big hM hT hMT yb (by grind) ?_
    rw [e6]
    grind
theorem fin_cases' {M y : Int} {R T : Nat} {Y : Rat} (hM : 1 ≤ M) (hM2 : M ≤ 127) (hT : 1 ≤ T) (hR : R ≤ 10) (hA : ¬ Again M y R) (h10 : R = 10 → Ab ((y : Rat) * (1 / M)) Y) (hY : Y ≤ 3652 / 1000) :
    ilogFin M y R T = y ∧ LO ((y - 835 / 1000) * (1 / M) * (1 / 2 ^ R)) (vv M y R) ∧ UP ((y + 835 / 1000) * (1 / M) * (1 / 2 ^ R)) (vv M y R) := by
  refine ⟨fin_eq hM hT (rsn_is_zero (M := M) (by lia) (by unfold Again at hA; lia)), ?_⟩
  have hm := cle hM2
  have hm0 := cle hM
  push_cast at hm hm0
  by_cases h : R = 10
  · have yb := (h10 h).le hY
    subst h
    have e2 : (2 : Rat) ^ 10 = 1024 := by decide +kernel
    refine fin_small hM yb (by rw [e2]; grind) (by rw [e2]; grind)
  · have yb := y_of_not (show 1 ≤ M by lia) hA
    have t := two_le (show R ≤ 9 by lia)
    have h2 := two_pos R
    have e6 : (2 : Rat) ^ R * (1 / 256) * (1 / 2 ^ R) = 1 / 256 := by grind
    refine fin_small hM yb (by grind) ?_
    rw [e6]
    have := mul_le_mul hm t (by grind) (by grind)
    grind
/-- what is shown of the loop and of the answer -/
noncomputable def Fine (M x : Int) (T : Nat) : Prop :=
  (∀ j : Nat, j ≤ 10 → (∀ i, i < j → Again M (iterY M (x - M) i) i) → Again M (iterY M (x - M) j) j → j < 10 ∧ 1 ≤ M + rsn (iterY M (x - M) j) j) ∧
  (∀ j : Nat, j ≤ 10 → (∀ i, i < j → Again M (iterY M (x - M) i) i) → ¬ Again M (iterY M (x - M) j) j →
    Good M x (ilogFin M (iterY M (x - M) j) j T) (if M ≤ x then 15 else 22) ∧ ((0 < ilogFin M (iterY M (x - M) j) j T ↔ M < x) ∧ (ilogFin M (iterY M (x - M) j) j T < 0 ↔ x < M)))
theorem nB_far : Bs nB_E 10 + 11 / 4 ≤ 22 := by decide +kernel
theorem nA_far : Bs nA_E 10 + 835 / 1000 ≤ 22 := by decide +kernel
theorem pB_far : Bs pB_E 10 + 11 / 4 ≤ 15 := by decide +kernel
theorem pA_far : Bs pA_E 10 + 835 / 1000 ≤ 15 := by decide +kernel
theorem nB_E0 : ∀ j, j < 10 → 0 ≤ nB_E j := by decide +kernel
theorem nA_E0 : ∀ j, j < 10 → 0 ≤ nA_E j := by decide +kernel
theorem pB_E0 : ∀ j, j < 10 → 0 ≤ pB_E j := by decide +kernel
theorem pA_E0 : ∀ j, j < 10 → 0 ≤ pA_E j := by decide +kernel
theorem nB_y : (1 - nB_al 10) * 2 ^ 10 ≤ 5 / 2 := by decide +kernel
theorem nA_y : (1 - nA_al 10) * 2 ^ 10 ≤ 3652 / 1000 := by decide +kernel
theorem pB_y : (pB_be 10 - 1) * 2 ^ 10 ≤ 5 / 2 := by decide +kernel
theorem pA_y : (pA_be 10 - 1) * 2 ^ 10 ≤ 3652 / 1000 := by decide +kernel
theorem inv_of {M : Int} {n : Nat} (hn : 0 < n) (h : (n : Int) ≤ M) : 1 / (M : Rat) ≤ 1 / (n : Rat) := by
  have h1 := cle h
  have e : (((n : Nat) : Int) : Rat) = (n : Rat) := by norm_cast
  rw [e] at h1
  exact inv_le (npos hn) h1
theorem neg_fine {M x : Int} {T : Nat} (hM : 40 ≤ M) (hT : 1 ≤ T) (hT2 : 128 ≤ M → 2 ≤ T) (hMT : (M : Rat) ≤ 256 ^ T) (hx : x < M) (hx10 : M ≤ 10 * x) : Fine M x T := by
  rcases Int.lt_or_le M 128 with hM2 | hM2
  · have ch := neg_chain nA_ok nA_low (by decide +kernel) (show 10 ≤ M by lia) (by have := inv_of (n := 40) (by decide) hM; push_cast at this; exact this) hx hx10
    constructor
    · intro j hj _ ha
      obtain ⟨y1, y2, y3, _⟩ := ch j hj
      refine ⟨?_, y2⟩
      rcases Nat.lt_or_ge j 10 with h | h
      · exact h
      · have : j = 10 := by lia
        subst this
        exact absurd ha (not_again (by lia) ((y_neg (by lia) y3 (by lia)).le nA_y) (by grind))
    · intro j hj _ ha
      obtain ⟨y1, y2, y3, K⟩ := ch j hj
      generalize iterY M (x - M) j = y at *
      obtain ⟨e, cl⟩ := fin_cases' (Y := (1 - nA_al 10) * 2 ^ 10) (show 1 ≤ M by lia) (by lia) hT hj ha (by intro h; subst h; exact y_neg (by lia) y3 (by lia)) nA_y
      rw [e, if_neg (by lia)]
      refine ⟨combine (by lia) K cl ?_, by lia, by lia⟩
      have := Bs_mono nA_E0 j hj
      have := nA_far
      grind
  · have ch := neg_chain nB_ok nB_low (by decide +kernel) (show 10 ≤ M by lia) (by have := inv_of (n := 128) (by decide) hM2; push_cast at this; exact this) hx hx10
    constructor
    · intro j hj _ ha
      obtain ⟨y1, y2, y3, _⟩ := ch j hj
      refine ⟨?_, y2⟩
      rcases Nat.lt_or_ge j 10 with h | h
      · exact h
      · have : j = 10 := by lia
        subst this
        exact absurd ha (not_again (by lia) ((y_neg (by lia) y3 (by lia)).le nB_y) (by grind))
    · intro j hj _ ha
      obtain ⟨y1, y2, y3, K⟩ := ch j hj
      generalize iterY M (x - M) j = y at *
      obtain ⟨c1, c2, c3, c4⟩ := fin_cases (Y := (1 - nB_al 10) * 2 ^ 10) hM2 (hT2 hM2) hMT hj ha (by intro h; subst h; exact y_neg (by lia) y3 (by lia)) nB_y
      have := c4 y1
      rw [if_neg (by lia)]
      refine ⟨combine (by lia) K ⟨c1, c2⟩ ?_, by lia, by lia⟩
      have := Bs_mono nB_E0 j hj
      have := nB_far
      grind
theorem pos_fine {M x : Int} {T : Nat} (hM : 12 ≤ M) (hT : 1 ≤ T) (hT2 : 128 ≤ M → 2 ≤ T) (hMT : (M : Rat) ≤ 256 ^ T) (hx : M < x) (hx10 : x ≤ 10 * M) : Fine M x T := by
  rcases Int.lt_or_le M 128 with hM2 | hM2
  · have ch := pos_chain pA_ok (by decide +kernel) (show 1 ≤ M by lia) (by have := inv_of (n := 12) (by decide) hM; push_cast at this; exact this) hx hx10
    constructor
    · intro j hj _ ha
      obtain ⟨y1, y2, y3, _⟩ := ch j hj
      refine ⟨?_, y2⟩
      rcases Nat.lt_or_ge j 10 with h | h
      · exact h
      · have : j = 10 := by lia
        subst this
        exact absurd ha (not_again (by lia) ((y_pos (by lia) y3 (by lia)).le pA_y) (by grind))
    · intro j hj _ ha
      obtain ⟨y1, y2, y3, K⟩ := ch j hj
      generalize iterY M (x - M) j = y at *
      obtain ⟨e, cl⟩ := fin_cases' (Y := (pA_be 10 - 1) * 2 ^ 10) (show 1 ≤ M by lia) (by lia) hT hj ha (by intro h; subst h; exact y_pos (by lia) y3 (by lia)) pA_y
      rw [e, if_pos (by lia)]
      refine ⟨combine (by lia) K cl ?_, by lia, by lia⟩
      have := Bs_mono pA_E0 j hj
      have := pA_far
      grind
  · have ch := pos_chain pB_ok (by decide +kernel) (show 1 ≤ M by lia) (by have := inv_of (n := 128) (by decide) hM2; push_cast at this; exact this) hx hx10
    constructor
    · intro j hj _ ha
      obtain ⟨y1, y2, y3, _⟩ := ch j hj
      refine ⟨?_, y2⟩
      rcases Nat.lt_or_ge j 10 with h | h
      · exact h
      · have : j = 10 := by lia
        subst this
        exact absurd ha (not_again (by lia) ((y_pos (by lia) y3 (by lia)).le pB_y) (by grind))
    · intro j hj _ ha
      obtain ⟨y1, y2, y3, K⟩ := ch j hj
      generalize iterY M (x - M) j = y at *
      obtain ⟨c1, c2, c3, c4⟩ := fin_cases (Y := (pB_be 10 - 1) * 2 ^ 10) hM2 (hT2 hM2) hMT hj ha (by intro h; subst h; exact y_pos (by lia) y3 (by lia)) pB_y
      have := c3 y1
      rw [if_pos (by lia)]
      refine ⟨combine (by lia) K ⟨c1, c2⟩ ?_, by lia, by lia⟩
      have := Bs_mono pB_E0 j hj
      have := pB_far
      grind
theorem divN_zero {M : Int} (hM : 1 ≤ M) : divN 0 M = 0 := by
  have b := divN_facts (a := 0) (b := M) (by lia)
  rcases Int.lt_trichotomy (divN 0 M) 0 with x | x | x
  · have := Int.mul_le_mul_of_nonneg_left (show divN 0 M ≤ -1 by lia) (show 0 ≤ M by lia); lia
  · exact x
  · have := Int.mul_le_mul_of_nonneg_left (show 1 ≤ divN 0 M by lia) (show 0 ≤ M by lia); lia
theorem eq_fine {M : Int} {T : Nat} (hM : 1 ≤ M) : Fine M M T := by
  have h0 : ¬ Again M (iterY M (M - M) 0) 0 := by
    show ¬ Again M (M - M) 0
    unfold Again
    rw [Int.sub_self]
    simp; lia
  constructor
  · intro j hj g ha
    rcases Nat.eq_zero_or_pos j with h | h
    · subst h; exact absurd ha h0
    · exact absurd (g 0 h) h0
  · intro j hj g ha
    rcases Nat.eq_zero_or_pos j with h | h
    · subst h
      have e : ilogFin M (iterY M (M - M) 0) (0 : Nat) T = 0 := by
        show ilogFin M (M - M) _ T = 0
        unfold ilogFin
        rw [Int.sub_self, Int.mul_zero]
        exact divN_zero hM
      rw [e, if_pos (by lia)]
      have hm := clt (show (0 : Int) < M by lia)
      have hmi := inv_pos hm
      have e1 : (M : Rat) / M = 1 := by push_cast at *; grind
      refine ⟨?_, by lia, by lia⟩
      unfold Good
      rw [e1]
      push_cast
      exact ⟨LO.one.mono (by grind) (Rat.le_refl), UP.one.mono (by grind) (Rat.le_refl)⟩
    · exact absurd (g 0 h) h0
end Lg

namespace Lg
/-- the law's rows, reckoned: (low, power) -/
noncomputable def rowsB (a b : Int) : Nat → Int → Int → Int → Int × Int
  | 0, _, p, l => (l, p)
  | n + 1, k, p, l => rowsB a b n (k + 2) ((p * (a - b) ^ 2).fdiv ((a + b) ^ 2)) (l + p.fdiv k)
theorem rowsB_eq (a b unit : Int) : ∀ (n j : Nat), rowsB a b n (2 * j + 1) (pw a b unit j) (lows a b unit j) = (lows a b unit (j + n), pw a b unit (j + n))
  | 0, j => rfl
  | n + 1, j => by
    rw [rowsB]
    have := rowsB_eq a b unit n (j + 1)
    have e : ((2 : Int) * ((j + 1 : Nat) : Int) + 1) = 2 * (j : Int) + 1 + 2 := by push_cast; lia
    rw [e] at this
    rw [show j + (n + 1) = j + 1 + n by lia]
    exact this
/-- for scales from 40 on -/
theorem all_fine {M x : Int} (hM : 40 ≤ M) (h1 : M ≤ 10 * x) (h2 : x ≤ 10 * M) {T : Nat} (hT : 1 ≤ T) (hT2 : 128 ≤ M → 2 ≤ T) (hMT : (M : Rat) ≤ 256 ^ T) : Fine M x T := by
  rcases Int.lt_trichotomy x M with h | h | h
  · exact neg_fine hM hT hT2 hMT h h1
  · subst h; exact eq_fine (by lia)
  · exact pos_fine (by lia) hT hT2 hMT h h2
end Lg

section
open PySem PySem.W PyProof.Rows
namespace Mine
open Lg
/-- the number of signs of M's text -/
noncomputable def dg (M : Int) : Nat := (Str.ofString (toString M)).length
theorem dg_eq {M : Int} (h : 0 ≤ M) : dg M = (Nat.toDigits 10 M.toNat).length := by
  obtain ⟨m, rfl⟩ : ∃ m : Nat, M = m := ⟨M.toNat, by lia⟩
  unfold dg
  have := PySem.W.KIN.signs_num m
  show (Str.ofString (toString (m : Int))).cps.size = _
  rw [← Array.length_toList, this, List.length_map]
  rfl
theorem dg_pos {M : Int} (h : 0 ≤ M) : 1 ≤ dg M := by
  rw [dg_eq h]
  exact Nat.length_toDigits_pos
theorem dg_lt {M : Int} (h : 0 ≤ M) : M < 10 ^ dg M := by
  have h1 := (Nat.length_toDigits_le_iff (b := 10) (n := M.toNat) (k := dg M) (by decide) (dg_pos h)).mp (by rw [dg_eq h]; exact Nat.le_refl _)
  have : ((10 ^ dg M : Nat) : Int) = (10 : Int) ^ dg M := by push_cast; rfl
  lia
theorem dg_le {M : Int} {k : Nat} (h : 0 ≤ M) (hk : 0 < k) (h2 : M < 10 ^ k) : dg M ≤ k := by
  rw [dg_eq h]
  refine (Nat.length_toDigits_le_iff (by decide) hk).mpr ?_
  have : ((10 ^ k : Nat) : Int) = (10 : Int) ^ k := by push_cast; rfl
  lia
/-- the number of rows -/
noncomputable def TI (M : Int) : Int := -((-10 * (dg M : Int)).fdiv 24)
noncomputable def TT (M : Int) : Nat := (TI M).toNat
theorem TI_facts {M : Int} (h : 0 ≤ M) : 1 ≤ TI M ∧ 10 * (dg M : Int) ≤ 24 * TI M ∧ 24 * TI M ≤ 10 * (dg M : Int) + 23 := by
  have := dg_pos h
  unfold TI
  rw [fd (by decide)]
  lia
theorem cube {a b : Nat} (h : a * a * a ≤ b * b * b) : a ≤ b := by
  rcases Nat.lt_or_ge b a with x | x
  · exfalso
    have h1 : b * b < a * a := Nat.mul_lt_mul'' x x
    have h2 : b * b * b < a * a * a := Nat.mul_lt_mul'' h1 x
    lia
  · exact x
theorem TT_pow {M : Int} (h : 0 ≤ M) : (10 : Nat) ^ dg M ≤ 256 ^ TT M := by
  have f := TI_facts h
  have hT : 10 * dg M ≤ 24 * TT M := by unfold TT; lia
  apply cube
  have e1 : (256 : Nat) ^ TT M * 256 ^ TT M * 256 ^ TT M = 2 ^ (24 * TT M) := by
    rw [show (256 : Nat) = 2 ^ 8 from rfl, ← Nat.pow_mul, ← Nat.pow_add, ← Nat.pow_add]
    congr 1; lia
  have e2 : (10 : Nat) ^ dg M * 10 ^ dg M * 10 ^ dg M = 1000 ^ dg M := by
    rw [show (1000 : Nat) = 10 * 10 * 10 from rfl, Nat.mul_pow, Nat.mul_pow]
  rw [e1, e2]
  refine Nat.le_trans (Nat.pow_le_pow_left (show 1000 ≤ 2 ^ 10 by decide) _) ?_
  rw [← Nat.pow_mul]
  exact Nat.pow_le_pow_right (by decide) hT
theorem TT_rat {M : Int} (h : 0 ≤ M) : (M : Rat) ≤ 256 ^ TT M := by
  have h1 := dg_lt h
  have h2 := TT_pow h
  have h3 : M ≤ ((256 ^ TT M : Nat) : Int) := by
    have : ((10 ^ dg M : Nat) : Int) = (10 : Int) ^ dg M := by push_cast; rfl
    have : ((10 ^ dg M : Nat) : Int) ≤ ((256 ^ TT M : Nat) : Int) := by exact_mod_cast h2
    lia
  have := cle h3
  have e : ∀ n : Nat, (((256 ^ n : Nat) : Int) : Rat) = (256 : Rat) ^ n := by
    intro n
    induction n with
    | zero => rfl
    | succ n ih =>
      rw [Nat.pow_succ, Rat.pow_succ, ← ih]
      generalize (256 ^ n : Nat) = k
      rw [Int.natCast_mul, Rat.intCast_mul]
      rfl
  rwa [e] at this
theorem TT_pos {M : Int} (h : 0 ≤ M) : 1 ≤ TT M := by have := TI_facts h; unfold TT; lia
theorem TT_two {M : Int} (h : 128 ≤ M) : 2 ≤ TT M := by
  have f := TI_facts (M := M) (by lia)
  have : 3 ≤ dg M := by
    rcases Nat.lt_or_ge (dg M) 3 with x | x
    · have h1 := dg_lt (M := M) (by lia)
      have e : dg M = 0 ∨ dg M = 1 ∨ dg M = 2 := by lia
      rcases e with e | e | e <;> rw [e] at h1 <;> lia
    · exact x
  unfold TT; lia

structure Scale (M : Int) : Prop where
  lo : 1 ≤ M
  hi : M ≤ 10 ^ 200
  mid : 40 ≤ M
structure Pre (x M : Int) : Prop where
  sc : Scale M
  lo : M ≤ 10 * x
  hi : x ≤ 10 * M
/-- the loop's last turn -/
noncomputable def Rf (x M : Int) : Nat := ((List.range 11).find? fun j => !decide (M * 2 ^ j ≤ ((iterY M (x - M) j).natAbs : Int) * 256)).getD 0
noncomputable def ilog (x M : Int) : Int := ilogFin M (iterY M (x - M) (Rf x M)) (Rf x M : Nat) (TT M)
theorem Rf_eq {x M : Int} {j : Nat} (hj : j ≤ 10) (h : ∀ i, i < j → Again M (iterY M (x - M) i) i) (hn : ¬ Again M (iterY M (x - M) j) j) : Rf x M = j := by
  unfold Rf
  have : (List.range 11).find? (fun j => !decide (M * 2 ^ j ≤ ((iterY M (x - M) j).natAbs : Int) * 256)) = some j := by
    rw [List.find?_range_eq_some]
    refine ⟨?_, ?_, ?_⟩
    · simpa [Again] using hn
    · simp; lia
    · intro i hi
      have := h i hi
      simpa [Again] using this
  rw [this]
  rfl
theorem fine {x M : Int} (P : Pre x M) : Fine M x (TT M) := all_fine P.sc.mid P.lo P.hi (TT_pos (by have := P.sc.lo; lia)) (fun h => TT_two h) (TT_rat (by have := P.sc.lo; lia))
theorem Rf_spec {x M : Int} (P : Pre x M) : Rf x M ≤ 10 ∧ (∀ i, i < Rf x M → Again M (iterY M (x - M) i) i) ∧ ¬ Again M (iterY M (x - M) (Rf x M)) (Rf x M) := by
  have F := (fine P).1
  have ex : ∃ j, j ≤ 10 ∧ (∀ i, i < j → Again M (iterY M (x - M) i) i) ∧ ¬ Again M (iterY M (x - M) j) j := by
    have key : ∀ n, n ≤ 11 → (∀ i, i < n → Again M (iterY M (x - M) i) i) ∨ ∃ j, j < n ∧ (∀ i, i < j → Again M (iterY M (x - M) i) i) ∧ ¬ Again M (iterY M (x - M) j) j := by
      intro n
      induction n with
      | zero => intro _; left; intro i hi; lia
      | succ n ih =>
        intro hn
        rcases ih (by lia) with a | ⟨j, b, c⟩
        · by_cases h : Again M (iterY M (x - M) n) n
          · left
            intro i hi
            rcases Nat.lt_or_ge i n with x | x
            · exact a i x
            · have : i = n := by lia
              subst this; exact h
          · right; exact ⟨n, by lia, a, h⟩
        · right; exact ⟨j, by lia, c⟩
    rcases key 11 (Nat.le_refl _) with a | ⟨j, b, c⟩
    · have := (F 10 (Nat.le_refl _) (fun i hi => a i (by lia)) (a 10 (by lia))).1
      lia
    · exact ⟨j, by lia, c⟩
  obtain ⟨j, a, b, c⟩ := ex
  rw [Rf_eq a b c]
  exact ⟨a, b, c⟩
theorem ilog_good {x M : Int} (P : Pre x M) : Good M x (ilog x M) (if M ≤ x then 15 else 22) ∧ ((0 < ilog x M ↔ M < x) ∧ (ilog x M < 0 ↔ x < M)) := by
  obtain ⟨a, b, c⟩ := Rf_spec P
  exact (fine P).2 _ a b c
end Mine

end
section
open PySem PySem.W PyProof.Rows
namespace Mine
open Lg
theorem rsn_tree (x s : Int) : (x.fdiv (2 ^ s.toNat) + if decide (1 * 2 ^ s.toNat < 2 * Builtin.bitAnd x (1 * 2 ^ s.toNat - 1) + Builtin.bitAnd (x.fdiv (2 ^ s.toNat)) 1) = true then 1 else 0) = rsn x s := by
  unfold rsn
  rw [Int.one_mul, kbt_maskF, bitAnd_m1, fm (p := 2) (by decide)]
  simp only [decide_eq_true_eq]
theorem divN_tree (a b : Int) : (a.fdiv b + if decide (b < 2 * a.fmod b + Builtin.bitAnd (a.fdiv b) 1) = true then 1 else 0) = divN a b := by
  unfold divN
  rw [bitAnd_m1, fm (p := 2) (by decide)]
  simp only [decide_eq_true_eq]
section
variable {prog : Program} {w : World} {A : Around} {E : Value → Shared → Prop} {s : Shared} {t u : Tok} {Q : Value → Shared → Prop}
end
theorem bits_scale {M : Int} (h : Scale M) : Builtin.Int.intBits M ≤ 700 := by
  rw [PySem.intBits_le_iff]
  have h1 := h.lo
  have h2 := h.hi
  have e : (10 : Int) ^ 200 < 2 ^ 700 := by decide +kernel
  have : M.natAbs < (2 : Nat) ^ 700 := by
    have : ((2 ^ 700 : Nat) : Int) = (2 : Int) ^ 700 := by push_cast; rfl
    lia
  exact this
/-- the halvings' loop -/
structure WI (x M y R : Int) : Prop where
  pre : Pre x M
  r0 : 0 ≤ R
  r1 : R ≤ 10
  ye : y = iterY M (x - M) R.toNat
  ag : ∀ i : Nat, i < R.toNat → Again M (iterY M (x - M) i) i
theorem wi_start {x M : Int} (P : Pre x M) : WI x M (x - M) 0 ∧ 0 ≤ (0 : Int) ∧ (0 : Int) ≤ 10 := ⟨⟨P, by decide, by decide, rfl, fun i hi => absurd hi (by simp)⟩, by decide, by decide⟩
/-- a step's size -/
theorem step_abs {M y R : Int} (hM : 1 ≤ M) (hp : 1 ≤ M + rsn y R) : (stepY M y R).natAbs ≤ 2 * y.natAbs + 1 := by
  have H := halving_of hM hp
  obtain ⟨_, _, _, _, s0, _, _, z1, z2⟩ := H
  generalize sqN (M * (M + rsn y R)) M = s at *
  generalize stepY M y R = z at *
  rcases Int.le_total 0 y with hy | hy
  · have h1 := Int.mul_nonneg (show 0 ≤ s by lia) hy
    have u : z ≤ 2 * y + 1 := by
      rcases Int.lt_or_le (2 * y + 1) z with x | x
      · have := Int.mul_le_mul_of_nonneg_left (show 2 * y + 2 ≤ z by lia) (show 0 ≤ M + s by lia)
        have e : (M + s) * (2 * y + 2) = 2 * (M * y) + 2 * (s * y) + 2 * M + 2 * s := by grind
        lia
      · exact x
    have l : -1 ≤ z := by
      rcases Int.lt_or_le z (-1) with x | x
      · have := Int.mul_le_mul_of_nonneg_left (show z ≤ -2 by lia) (show 0 ≤ M + s by lia)
        have := Int.mul_nonneg (show 0 ≤ M by lia) hy
        lia
      · exact x
    lia
  · have h1 := Int.mul_nonneg (show 0 ≤ s by lia) (show 0 ≤ -y by lia)
    have l : 2 * y - 1 ≤ z := by
      rcases Int.lt_or_le z (2 * y - 1) with x | x
      · have := Int.mul_le_mul_of_nonneg_left (show z ≤ 2 * y - 2 by lia) (show 0 ≤ M + s by lia)
        have e : (M + s) * (2 * y - 2) = 2 * (M * y) + 2 * (s * y) - 2 * M - 2 * s := by grind
        rw [Int.mul_neg] at h1
        lia
      · exact x
    have u : z ≤ 1 := by
      rcases Int.lt_or_le 1 z with x | x
      · have := Int.mul_le_mul_of_nonneg_left (show 2 ≤ z by lia) (show 0 ≤ M + s by lia)
        have := Int.mul_nonneg (show 0 ≤ M by lia) (show 0 ≤ -y by lia)
        rw [Int.mul_neg] at this
        lia
      · exact x
    lia
theorem iter_abs {x M : Int} (P : Pre x M) : ∀ j : Nat, j ≤ 10 → (∀ i : Nat, i < j → Again M (iterY M (x - M) i) i) → (iterY M (x - M) j).natAbs + 1 ≤ 2 ^ j * ((x - M).natAbs + 1)
  | 0, _, _ => by simp [iterY]
  | j + 1, hj, h => by
    have ih := iter_abs P j (by lia) (fun i hi => h i (by lia))
    have f := ((fine P).1 j (by lia) (fun i hi => h i (by lia)) (h j (by lia))).2
    have s := step_abs (R := j) P.sc.lo f
    show (stepY M (iterY M (x - M) j) j).natAbs + 1 ≤ _
    rw [Nat.pow_succ, Nat.mul_comm (2 ^ j) 2, Nat.mul_assoc]
    lia
theorem bits_y {x M y R : Int} (h : WI x M y R) : Builtin.Int.intBits y ≤ 730 := by
  have a := iter_abs h.pre R.toNat (by have := h.r1; lia) h.ag
  rw [← h.ye] at a
  have h1 := bits_scale h.pre.sc
  rw [PySem.intBits_le_iff] at *
  have := h.pre.lo
  have := h.pre.hi
  have e : (2 : Nat) ^ 730 = 1073741824 * 2 ^ 700 := by rw [show 730 = 30 + 700 from rfl, Nat.pow_add]
  have e2 : 2 ^ R.toNat ≤ 2 ^ 10 := Nat.pow_le_pow_right (by decide) (by have := h.r1; lia)
  have e3 : 2 ^ R.toNat * ((x - M).natAbs + 1) ≤ 2 ^ 10 * ((x - M).natAbs + 1) := Nat.mul_le_mul_right _ e2
  lia
/-- the loop's test as the program writes it -/
theorem test_low {x M y R : Int} (h : WI x M y R) (hR : R ≤ 8) : (M ≤ (if y < 0 then -y else y) * 2 ^ (8 - R).toNat) ↔ Again M y R.toNat := by
  unfold Again
  have e : (2 : Int) ^ (8 - R).toNat * 2 ^ R.toNat = 256 := by
    rw [← Int.pow_add, show (8 - R).toNat + R.toNat = 8 by have := h.r0; lia]; rfl
  have hp := Lg.pw_pos R.toNat
  have ea : (if y < 0 then -y else y) = (y.natAbs : Int) := by split <;> lia
  rw [ea]
  generalize (2 : Int) ^ R.toNat = K at *
  generalize (2 : Int) ^ (8 - R).toNat = L at *
  generalize (y.natAbs : Int) = a at *
  constructor
  · intro g
    have := Int.mul_le_mul_of_nonneg_right g (show 0 ≤ K by lia)
    rw [Int.mul_assoc, e] at this
    exact this
  · intro g
    rw [← e, ← Int.mul_assoc] at g
    exact Int.le_of_mul_le_mul_right g hp
theorem test_high {x M y R : Int} (h : WI x M y R) (hR : 8 < R) : (M ≤ ((if y < 0 then -y else y)).fdiv (2 ^ (R - 8).toNat)) ↔ Again M y R.toNat := by
  unfold Again
  have e : (2 : Int) ^ R.toNat = 2 ^ (R - 8).toNat * 256 := by
    rw [show (256 : Int) = 2 ^ 8 from rfl, ← Int.pow_add, show (R - 8).toNat + 8 = R.toNat by lia]
  have hp := Lg.pw_pos (R - 8).toNat
  have ea : (if y < 0 then -y else y) = (y.natAbs : Int) := by split <;> lia
  rw [ea, e, fd hp]
  generalize (2 : Int) ^ (R - 8).toNat = L at *
  generalize (y.natAbs : Int) = a at *
  rw [Int.le_ediv_iff_mul_le hp, ← Int.mul_assoc]
  constructor <;> intro g <;> lia
theorem wi_pos {x M y R : Int} (h : WI x M y R) (g : Again M y R.toNat) : 1 ≤ M + rsn y R ∧ R < 10 := by
  have f := (fine h.pre).1 R.toNat (by have := h.r1; lia) h.ag (by rw [← h.ye]; exact g)
  rw [← h.ye] at f
  have e : ((R.toNat : Nat) : Int) = R := by have := h.r0; lia
  rw [e] at f
  exact ⟨f.2, by lia⟩
theorem wi_up {x M y R : Int} (h : WI x M y R) (g : Again M y R.toNat) : WI x M (stepY M y R) (R + 1) ∧ 0 ≤ R + 1 ∧ R + 1 ≤ 10 := by
  have p := wi_pos h g
  have r0 := h.r0
  have e : (R + 1).toNat = R.toNat + 1 := by lia
  have e2 : ((R.toNat : Nat) : Int) = R := by lia
  refine ⟨⟨h.pre, by lia, by lia, ?_, ?_⟩, by lia, by lia⟩
  · rw [e]
    show _ = stepY M (iterY M (x - M) R.toNat) (R.toNat : Nat)
    rw [← h.ye, e2]
  · rw [e]
    intro i hi
    rcases Nat.lt_or_ge i R.toNat with a | a
    · exact h.ag i a
    · have : i = R.toNat := by lia
      subst this
      rw [← h.ye]; exact g
theorem wi_n {x M y R : Int} (h : WI x M y R) (g : Again M y R.toNat) : 1 ≤ M * (M + rsn y R) ∧ 1 ≤ M := by
  have p := wi_pos h g
  have := h.pre.sc.lo
  refine ⟨?_, this⟩
  have := Int.mul_le_mul this p.1 (by lia) (by lia)
  lia
theorem wi_den {x M y R : Int} (h : WI x M y R) (g : Again M y R.toNat) : 0 < M + sqN (M * (M + rsn y R)) M := by
  have p := wi_n h g
  have := (sqN_sq p.1 p.2).1
  lia
theorem wi_R {x M y R : Int} (h : WI x M y R) (g : ¬ Again M y R.toNat) : R = (Rf x M : Nat) ∧ y = iterY M (x - M) (Rf x M) := by
  have := Rf_eq (x := x) (M := M) (j := R.toNat) (by have := h.r1; lia) h.ag (by rw [← h.ye]; exact g)
  rw [this, ← h.ye]
  have := h.r0
  lia
end Mine

end
section
open PySem PySem.W PyProof.Rows
namespace Mine
open Lg
/-- a number whose size no division minds -/
structure Sz (b : Int) : Prop where
  lo : -(2 ^ 8000) < b
  hi : b < 2 ^ 8000
theorem Sz.log {b : Int} (h : Sz b) : b.natAbs.log2 < 9000 := by
  by_cases h0 : b.natAbs = 0
  · rw [h0]; decide +kernel
  · have h1 := h.lo
    have h2 := h.hi
    have : b.natAbs < 2 ^ 8000 := by
      have : ((2 ^ 8000 : Nat) : Int) = (2 : Int) ^ 8000 := by push_cast; rfl
      generalize (2 : Int) ^ 8000 = B at *
      generalize (2 : Nat) ^ 8000 = C at *
      lia
    have := (Nat.log2_lt h0).mpr this
    lia
theorem Sz.of_bits {b : Int} {m : Nat} (h : Builtin.Int.intBits b ≤ m) (hm : m ≤ 8000) : Sz b := by
  rw [PySem.intBits_le_iff] at h
  have h3 : (2 : Nat) ^ m ≤ 2 ^ 8000 := Nat.pow_le_pow_right (by decide) hm
  have : ((2 ^ 8000 : Nat) : Int) = (2 : Int) ^ 8000 := by push_cast; rfl
  generalize hB : (2 : Int) ^ 8000 = B at *
  generalize hC : (2 : Nat) ^ 8000 = C at *
  generalize (2 : Nat) ^ m = D at *
  constructor
  · rw [hB]; lia
  · rw [hB]; lia
structure SqPre (n a : Int) : Prop where
  hn : 1 ≤ n
  ha : 1 ≤ a
  nz : Sz n
  az : Sz a
structure SI (n a b : Int) : Prop where
  hn : 1 ≤ n
  ha : 1 ≤ a
  hb : b = 0 ∨ (1 ≤ b ∧ a = nxt n b)
  nz : Sz n
  az : Sz a
theorem SI.log {n a b : Int} (h : SI n a b) : a.natAbs.log2 < 9000 := h.az.log
noncomputable def mu (n a b : Int) : Nat := if a = b then 0 else if n ≤ a * a + a then a.toNat + 1 else n.toNat + 2
theorem si_start {n a : Int} (h : (1 ≤ n ∧ 1 ≤ a) ∧ SqPre n a) : SI n a 0 ∧ 1 ≤ a := ⟨⟨h.1.1, h.1.2, Or.inl rfl, h.2.nz, h.2.az⟩, h.1.2⟩
theorem si_up {n a b : Int} (h' : SI n a b) : SI n ((a - (-n).fdiv a).fdiv (2 ^ Int.toNat 1)) a ∧ 1 ≤ (a - (-n).fdiv a).fdiv (2 ^ Int.toNat 1) := by
  have e : (a - (-n).fdiv a).fdiv (2 ^ Int.toNat 1) = nxt n a := rfl
  rw [e]
  have h : SI n a b ∧ 1 ≤ a := ⟨h', h'.ha⟩
  have g := nxt_ge h.2 h.1.hn
  refine ⟨⟨h.1.hn, g.1, Or.inr ⟨h.2, rfl⟩, h'.nz, ?_⟩, g.1⟩
  have n1 := h'.nz.hi
  have n2 := h'.az.hi
  have n3 := h'.az.lo
  have hn := h'.hn
  have ha := h'.ha
  by_cases c : n ≤ a * a + a
  · have l := nxt_le ha c
    generalize hB : (2 : Int) ^ 8000 = B at *
    exact ⟨by rw [hB]; lia, by rw [hB]; lia⟩
  · have l := nxt_le' ha hn (by lia)
    generalize hB : (2 : Int) ^ 8000 = B at *
    exact ⟨by rw [hB]; lia, by rw [hB]; lia⟩
theorem si_mu {n a b : Int} (h' : SI n a b) (hne : a ≠ b) : mu n ((a - (-n).fdiv a).fdiv (2 ^ Int.toNat 1)) a < mu n a b := by
  have e : (a - (-n).fdiv a).fdiv (2 ^ Int.toNat 1) = nxt n a := rfl
  rw [e]
  have ha := h'.ha
  have hn := h'.hn
  have g := nxt_ge ha hn
  unfold mu
  rw [if_neg hne]
  by_cases c : n ≤ a * a + a
  · rw [if_pos c]
    have l := nxt_le ha c
    by_cases d : nxt n a = a
    · rw [if_pos d]; lia
    · rw [if_neg d, if_pos g.2]; lia
  · rw [if_neg c]
    have l := nxt_le' ha hn (by lia)
    by_cases d : nxt n a = a
    · rw [if_pos d]; lia
    · rw [if_neg d, if_pos g.2]; lia
theorem sq_tree {n a₀ a b : Int} (p' : (1 ≤ n ∧ 1 ≤ a₀) ∧ SqPre n a₀) (h' : SI n a b) (e : a = b) : a = sqN n a₀ := by
  have p := p'.1
  have h : SI n a b ∧ 1 ≤ a := ⟨h', h'.ha⟩
  have f : nxt n a = a := by
    rcases h.1.hb with x | x
    · have := h.2; lia
    · rw [← e] at x; exact x.2.symm
  exact isSq_unique (nxt_fix h.2 f) (sqN_sq p.1 p.2)
theorem str_ok {M : Int} (h : Scale M) : M.natAbs.log2 < 1920 := by
  have h1 := h.lo
  have h2 := h.hi
  refine PyProof.Rows.shown (N := 2 ^ 1920) ?_ ?_ (Int.le_refl _)
  · have : (0 : Int) < 2 ^ 1920 := Int.pow_pos (by decide)
    lia
  · have : (10 : Int) ^ 200 < 2 ^ 1920 := by decide +kernel
    lia
theorem dg_bound {M : Int} (h : Scale M) : dg M ≤ 201 := by
  have h1 := h.lo
  have h2 := h.hi
  refine dg_le (by lia) (by decide) ?_
  have : (10 : Int) ^ 200 < 10 ^ 201 := by decide +kernel
  lia
theorem len_ok {M : Int} (h : Scale M) : ((Str.ofString (toString M)).length : Int) < 9223372036854775808 := by
  have := dg_bound h
  unfold dg at this
  lia
theorem TI_bound {M : Int} (h : Scale M) : 1 ≤ TI M ∧ TI M ≤ 84 := by
  have := dg_bound h
  have := TI_facts (M := M) (by have := h.lo; lia)
  lia
section
variable {prog : Program} {w : World} {A : Around} {E : Value → Shared → Prop} {s : Shared} {t u : Tok} {Q : Value → Shared → Prop}
theorem T_neg {M : Int} (hS : Scale M) (h : ∀ T : Int, T = TI M → 1 ≤ T → T ≤ 84 → Q (.int T s.toks) { s with toks := s.toks + 1 }) :
    wpAny (model prog w) A (unaryOp .USub (.int ((-10 * ((Str.ofString (toString M)).length : Int)).fdiv (3 * 8)) t)) Q E s := by
  refine PyProof.Rows.neg_int ?_
  have e : -((-10 * ((Str.ofString (toString M)).length : Int)).fdiv (3 * 8)) = TI M := rfl
  exact h _ e (by rw [e]; exact (TI_bound hS).1) (by rw [e]; exact (TI_bound hS).2)
end
theorem bits_divN {a b : Int} {m : Nat} (h : Builtin.Int.intBits a ≤ m) : Builtin.Int.intBits (divN a b) ≤ m + 1 := by
  have f := PyProof.Rows.bits_fdiv (b := b) h
  rw [PySem.intBits_le_iff] at *
  have h2 : 1 ≤ 2 ^ m := Nat.one_le_two_pow
  unfold divN
  rw [Nat.pow_succ]
  split <;> lia
theorem bits_rsn {a b : Int} {m : Nat} (h : Builtin.Int.intBits a ≤ m) : Builtin.Int.intBits (rsn a b) ≤ m + 1 := bits_divN h
theorem sz_scale {M : Int} (h : Scale M) : Sz M := Sz.of_bits (bits_scale h) (by decide)
theorem wi_sq {x M y R : Int} (h : WI x M y R) (g : Again M y R.toNat) : (1 ≤ M * (M + rsn y R) ∧ 1 ≤ M) ∧ SqPre (M * (M + rsn y R)) M := by
  have p := wi_n h g
  refine ⟨p, p.1, p.2, ?_, sz_scale h.pre.sc⟩
  exact Sz.of_bits (PyProof.Rows.bits_mul (bits_scale h.pre.sc) (PyProof.Rows.bits_add (bits_scale h.pre.sc) (bits_rsn (bits_y h)))) (by decide)
theorem wi_dv {x M y R : Int} (h : WI x M y R) (g : Again M y R.toNat) : 0 < M + sqN (M * (M + rsn y R)) M ∧ Sz (M + sqN (M * (M + rsn y R)) M) := by
  have d := wi_den h g
  refine ⟨d, ?_⟩
  have p := wi_sq h g
  obtain ⟨s0, s1, s2⟩ := sqN_sq p.1.1 p.1.2
  have hb := PyProof.Rows.bits_add (bits_scale h.pre.sc) (PyProof.Rows.bits_mul (bits_scale h.pre.sc) (PyProof.Rows.bits_add (bits_scale h.pre.sc) (bits_rsn (b := R) (bits_y h))))
  have hz := Sz.of_bits hb (by decide)
  have hs : sqN (M * (M + rsn y R)) M ≤ M * (M + rsn y R) := by
    generalize sqN (M * (M + rsn y R)) M = s at *
    have : s * 1 ≤ s * s := Int.mul_le_mul_of_nonneg_left s0 (by lia)
    rcases Int.lt_or_le s 2 with x | x
    · have := p.1.1; lia
    · have : s * 2 ≤ s * s := Int.mul_le_mul_of_nonneg_left x (by lia)
      lia
  have h1 := hz.hi
  have h2 := hz.lo
  generalize hB : (2 : Int) ^ 8000 = B at *
  have : 0 < B := by rw [← hB]; exact Int.pow_pos (by decide)
  exact ⟨by rw [hB]; lia, by rw [hB]; lia⟩
theorem wi_up' {x M y R : Int} (h : WI x M y R) (g : Again M y R.toNat) : WI x M (divN (M * y * 2 ^ Int.toNat 1) (M + sqN (M * (M + rsn y R)) M)) (R + 1) ∧ 0 ≤ R + 1 ∧ R + 1 ≤ 10 := by
  have e : M * y * 2 ^ Int.toNat 1 = 2 * (M * y) := by rw [show (2 : Int) ^ Int.toNat 1 = 2 from rfl, Int.mul_comm]
  rw [e]
  exact wi_up h g
theorem wi_mu {x M y R : Int} (h : WI x M y R) (g : Again M y R.toNat) : (10 - (R + 1)).toNat < (10 - R).toNat := by
  have := (wi_pos h g).2
  have := h.r0
  lia
theorem T_dv {T : Int} (h1 : 1 ≤ T) (h2 : T ≤ 84) : 0 < T ∧ Sz T := ⟨by lia, Sz.of_bits (m := 64) (by rw [PySem.intBits_le_iff]; lia) (by decide)⟩
theorem k_dv {k : Int} (h1 : 1 ≤ k) (h2 : k ≤ 84) : 0 < k ∧ Sz k := T_dv h1 h2
theorem M_dv {M : Int} (h : Scale M) : 0 < M ∧ Sz M := ⟨by have := h.lo; lia, sz_scale h⟩
theorem na_low {x M y R : Int} (h : WI x M y R) (hR : R ≤ 8) (g : ¬ M ≤ (if y < 0 then -y else y) * 2 ^ (8 - R).toNat) : ¬ Again M y R.toNat := fun a => g ((test_low h hR).mpr a)
theorem na_high {x M y R : Int} (h : WI x M y R) (hR : 8 < R) (g : ¬ M ≤ (if y < 0 then -y else y).fdiv (2 ^ (R - 8).toNat)) : ¬ Again M y R.toNat := fun a => g ((test_high h hR).mpr a)
/-- the rows' loop -/
noncomputable def wFold (M ys w : Int) (ks : List Int) : Int := ks.foldl (fun w k => divN M k - divN (ys * w) M) w
structure WB (M ys w₀ : Int) (pre : List Int) (w : Int) : Prop where
  sc : Scale M
  yb : (ys.natAbs : Int) ≤ M
  we : w = wFold M ys w₀ pre
  lb : pre.length ≤ 100
  wb : (w.natAbs : Int) ≤ (pre.length + 1) * (M + 2)
theorem divN_abs {a b : Int} (hb : 0 < b) : ((divN a b).natAbs : Int) ≤ (a.natAbs : Int) + 1 := by
  have := divN_facts (a := a) hb
  have h1 : divN a b ≤ (a.natAbs : Int) + 1 := by
    rcases Int.lt_or_le ((a.natAbs : Int) + 1) (divN a b) with x | x
    · have m := Int.mul_le_mul_of_nonneg_left (show (a.natAbs : Int) + 2 ≤ divN a b by lia) (show 0 ≤ b by lia)
      have m2 := Int.mul_le_mul_of_nonneg_right (show 1 ≤ b by lia) (show 0 ≤ (a.natAbs : Int) by lia)
      rw [Int.mul_add] at m
      lia
    · exact x
  have h2 : -((a.natAbs : Int) + 1) ≤ divN a b := by
    rcases Int.lt_or_le (divN a b) (-((a.natAbs : Int) + 1)) with x | x
    · have m := Int.mul_le_mul_of_nonneg_left (show divN a b ≤ -((a.natAbs : Int) + 2) by lia) (show 0 ≤ b by lia)
      have m2 := Int.mul_le_mul_of_nonneg_right (show 1 ≤ b by lia) (show 0 ≤ (a.natAbs : Int) by lia)
      rw [Int.mul_neg, Int.mul_add] at m
      lia
    · exact x
  lia
/-- a quotient by M of ys * w, ys at most M, is at most w and one more -/
theorem divN_mulM {ys w M : Int} (hM : 1 ≤ M) (hy : (ys.natAbs : Int) ≤ M) : ((divN (ys * w) M).natAbs : Int) ≤ (w.natAbs : Int) + 1 := by
  have := divN_facts (a := ys * w) (b := M) (by lia)
  have p : ((ys * w).natAbs : Int) ≤ M * (w.natAbs : Int) := by
    rw [Int.natAbs_mul]
    push_cast
    exact Int.mul_le_mul_of_nonneg_right hy (by lia)
  have h1 : divN (ys * w) M ≤ (w.natAbs : Int) + 1 := by
    rcases Int.lt_or_le ((w.natAbs : Int) + 1) (divN (ys * w) M) with x | x
    · have m := Int.mul_le_mul_of_nonneg_left (show (w.natAbs : Int) + 2 ≤ divN (ys * w) M by lia) (show 0 ≤ M by lia)
      rw [Int.mul_add] at m
      lia
    · exact x
  have h2 : -((w.natAbs : Int) + 1) ≤ divN (ys * w) M := by
    rcases Int.lt_or_le (divN (ys * w) M) (-((w.natAbs : Int) + 1)) with x | x
    · have m := Int.mul_le_mul_of_nonneg_left (show divN (ys * w) M ≤ -((w.natAbs : Int) + 2) by lia) (show 0 ≤ M by lia)
      rw [Int.mul_neg, Int.mul_add] at m
      lia
    · exact x
  lia
theorem ys_bound {M y R : Int} (hM : 1 ≤ M) (hR : 0 ≤ R) (g : ¬ Again M y R.toNat) : ((rsn y R).natAbs : Int) ≤ M := by
  unfold Again at g
  have r := divN_facts (a := y) (pw_pos R.toNat)
  rw [← rsn_divN] at r
  have p := Lg.pw_pos R.toNat
  generalize (2 : Int) ^ R.toNat = K at *
  have mk : K ≤ M * K := by
    have := Int.mul_le_mul_of_nonneg_right hM (show 0 ≤ K by lia); lia
  rcases Int.lt_or_le M ((rsn y R).natAbs : Int) with x | x
  · exfalso
    rcases Int.le_total 0 (rsn y R) with z | z
    · have := Int.mul_le_mul_of_nonneg_left (show M + 1 ≤ rsn y R by lia) (show 0 ≤ K by lia)
      rw [Int.mul_add, Int.mul_comm K M] at this
      lia
    · have := Int.mul_le_mul_of_nonneg_left (show rsn y R ≤ -(M + 1) by lia) (show 0 ≤ K by lia)
      rw [Int.mul_neg, Int.mul_add, Int.mul_comm K M] at this
      lia
  · exact x
theorem wb_start {x M y R T : Int} (h : WI x M y R) (g : ¬ Again M y R.toNat) (h1 : 1 ≤ T) : WB M (rsn y R) (divN M T) [] (divN M T) := by
  have hM := h.pre.sc.lo
  refine ⟨h.pre.sc, ys_bound hM h.r0 g, rfl, by decide, ?_⟩
  have := divN_abs (a := M) (b := T) (by lia)
  simp only [List.length_nil]
  lia
theorem wb_up {M ys w₀ w k : Int} {pre : List Int} (h : WB M ys w₀ pre w) (hk : 1 ≤ k) (hl : pre.length < 100) : WB M ys w₀ (pre ++ [k]) (divN M k - divN (ys * w) M) := by
  have hM := h.sc.lo
  refine ⟨h.sc, h.yb, ?_, ?_, ?_⟩
  · unfold wFold
    rw [List.foldl_append, h.we]
    rfl
  · simp; lia
  · have a := divN_abs (a := M) (b := k) (by lia)
    have b := divN_mulM (w := w) hM h.yb
    have c := h.wb
    simp only [List.length_append, List.length_cons, List.length_nil]
    have e : (((pre.length + (0 + 1) : Nat) : Int) + 1) * (M + 2) = ((pre.length : Int) + 1) * (M + 2) + (M + 2) := by
      push_cast; rw [Int.add_mul]; lia
    rw [e]
    generalize ((pre.length : Int) + 1) * (M + 2) = z at *
    lia
theorem bits_w {M ys w₀ w : Int} {pre : List Int} (h : WB M ys w₀ pre w) : Builtin.Int.intBits w ≤ 720 := by
  have b := bits_scale h.sc
  have c := h.wb
  have l := h.lb
  have hM := h.sc.lo
  rw [PySem.intBits_le_iff] at *
  have m := Int.mul_le_mul_of_nonneg_right (show (pre.length : Int) + 1 ≤ 101 by lia) (show 0 ≤ M + 2 by lia)
  have e : (2 : Nat) ^ 720 = 1048576 * 2 ^ 700 := by rw [show 720 = 20 + 700 from rfl, Nat.pow_add]
  generalize ((pre.length : Int) + 1) * (M + 2) = z at *
  generalize (2 : Nat) ^ 700 = B at *
  lia
/-- the loop's list, row by row -/
theorem wFold_down (M ys : Int) : ∀ (n : Nat) (w : Int), wFold M ys w (downKs (n : Int) n) = wDn M ys n w
  | 0, w => rfl
  | n + 1, w => by
    have e : downKs ((n + 1 : Nat) : Int) (n + 1) = ((n : Int) + 1) :: downKs (n : Int) n := by
      unfold downKs
      rw [List.range_succ_eq_map, List.map_cons, List.map_map]
      refine List.cons_eq_cons.mpr ⟨by lia, List.map_congr_left fun i _ => ?_⟩
      simp only [Function.comp]
      lia
    rw [e, wDn]
    show wFold M ys (divN M ((n : Int) + 1) - divN (ys * w) M) (downKs (n : Int) n) = _
    exact wFold_down M ys n _
theorem ilog_tree {x M y R T w : Int} {n : Nat} (h : WI x M y R) (g : ¬ Again M y R.toNat) (hT : T = TI M) (h1 : 1 ≤ T) (hb : WB M (rsn y R) (divN M T) (downKs (T - 1) n) w) (hn : (n : Int) = T - 1) : divN (w * y) M = ilog x M := by
  obtain ⟨r, e⟩ := wi_R h g
  unfold ilog ilogFin
  rw [← e, ← r]
  have tt : TT M = T.toNat := by unfold TT; rw [hT]
  have ec : ((TT M : Nat) : Int) = T := by rw [tt]; lia
  have en : TT M - 1 = n := by rw [tt]; lia
  rw [ec, en, hb.we, ← wFold_down, hn]
end Mine
namespace Mine
open Lg
end Mine
namespace Mine
open Lg
end Mine
namespace Mine
inductive Said : Prop
  | mk : Said
end Mine
namespace Mine
end Mine

end
section
open PySem PySem.W PyProof.Rows
namespace Mine
open Lg
theorem ilog_abs {x M : Int} (P : Pre x M) : -(9 * M + 22) ≤ ilog x M ∧ ilog x M ≤ 9 * M + 22 := by
  have hM := P.sc.lo
  have hm := clt (show (0 : Int) < M by lia)
  have hx0 : 0 < x := by have := P.lo; lia
  have hx := clt hx0
  have h1 := cle P.lo
  have h2 := cle P.hi
  obtain ⟨lo, up⟩ := (ilog_good P).1
  have hf : (if M ≤ x then (15 : Rat) else 22) ≤ 22 := by split <;> grind
  generalize (if M ≤ x then (15 : Rat) else 22) = far at *
  generalize ilog x M = t at *
  push_cast at *
  have hmi := inv_pos hm
  have hxi := inv_pos hx
  have e0 : (1 : Rat) + ((x : Rat) / M - 1) = (x : Rat) / M := by grind
  constructor
  · have b : LO (((x : Rat) / M - 1) / (1 + ((x : Rat) / M - 1))) (1 + ((x : Rat) / M - 1)) := LO.base (by
      have := Rat.mul_pos hx hmi
      grind)
    rw [e0] at b
    have c := b.le up
    have e1 : ((x : Rat) / M - 1) / ((x : Rat) / M) = 1 - (M : Rat) / x := by grind
    rw [e1] at c
    have c2 : (M : Rat) / x ≤ 10 := by
      have := Rat.mul_le_mul_of_nonneg_right h1 (show (0 : Rat) ≤ 1 / x by grind)
      grind
    have c3 : (-9 : Rat) ≤ ((t : Rat) + far) * (1 / M) := by grind
    have c4 := Rat.mul_le_mul_of_nonneg_right c3 (show (0 : Rat) ≤ M by grind)
    have c5 : ((t : Rat) + far) * (1 / M) * M = t + far := by grind
    rw [c5] at c4
    have : ((-(9 * M + 22) : Int) : Rat) ≤ (t : Rat) := by push_cast; grind
    exact Rat.intCast_le_intCast.mp this
  · have b : UP ((x : Rat) / M - 1) (1 + ((x : Rat) / M - 1)) := UP.base
    rw [e0] at b
    have c := lo.le b
    have c2 : (x : Rat) / M ≤ 10 := by
      have := Rat.mul_le_mul_of_nonneg_right h2 (show (0 : Rat) ≤ 1 / M by grind)
      grind
    have c3 : ((t : Rat) - far) * (1 / M) ≤ 9 := by grind
    have c4 := Rat.mul_le_mul_of_nonneg_right c3 (show (0 : Rat) ≤ M by grind)
    have c5 : ((t : Rat) - far) * (1 / M) * M = t - far := by grind
    rw [c5] at c4
    have : (t : Rat) ≤ ((9 * M + 22 : Int) : Rat) := by push_cast; grind
    exact Rat.intCast_le_intCast.mp this
end Mine

end
/- log 10 by its digits (for law 08) -/
namespace Lg
noncomputable def tenD : Int := 23025850929940456840179914546843642076011014886
theorem ten_rows : (rowsB 10 1 350 1 ((10 ^ 60 * (10 - 1) : Int).fdiv (10 + 1)) 0).2 ≤ 0 ∧ tenD * 10 ^ 14 ≤ 2 * (rowsB 10 1 350 1 ((10 ^ 60 * (10 - 1) : Int).fdiv (10 + 1)) 0).1 ∧ 2 * (rowsB 10 1 350 1 ((10 ^ 60 * (10 - 1) : Int).fdiv (10 + 1)) 0).1 + 4 * (2 * 350 + 1) + 4 ≤ (tenD + 1) * 10 ^ 14 := by decide +kernel
theorem ten_eq : rowsB 10 1 350 1 ((10 ^ 60 * (10 - 1) : Int).fdiv (10 + 1)) 0 = (lows 10 1 (10 ^ 60) 350, pw 10 1 (10 ^ 60) 350) := by
  have := rowsB_eq 10 1 (10 ^ 60) 350 0
  rw [show 0 + 350 = 350 from rfl] at this
  exact this
theorem ten_bounds : LO ((tenD : Rat) / 10 ^ 46) 10 ∧ UP (((tenD + 1 : Int) : Rat) / 10 ^ 46) 10 := by
  have r := ten_rows
  rw [ten_eq] at r
  dsimp only at r
  have gen : ∀ L P : Int, P ≤ 0 ∧ tenD * 10 ^ 14 ≤ 2 * L ∧ 2 * L + 4 * (2 * 350 + 1) + 4 ≤ (tenD + 1) * 10 ^ 14 → (P ≤ 0 ∧ tenD * 10 ^ 14 ≤ 2 * L ∧ 2 * L + 4 * (2 * ((350 : Nat) : Int) + 1) + 4 ≤ (tenD + 1) * 10 ^ 14) := fun _ _ h => h
  replace r := gen _ _ r
  obtain ⟨r1, r2, r3⟩ := r
  have l := law_LO (a := 10) (b := 1) (unit := 10 ^ 60) (by decide) (by decide) (by decide) (by decide +kernel) 350
  have u := law_UP (a := 10) (b := 1) (unit := 10 ^ 60) (by decide) (by decide) (by decide) (by decide +kernel) 350 r1
  have e : ((10 : Int) : Rat) / ((1 : Int) : Rat) = 10 := by decide +kernel
  rw [e] at l u
  have p : (0 : Rat) < 10 ^ 46 := by decide +kernel
  have q : (0 : Rat) < ((10 ^ 60 : Int) : Rat) := by decide +kernel
  have pq : ((10 ^ 60 : Int) : Rat) = 10 ^ 46 * 10 ^ 14 := by decide +kernel
  have r2' := cle r2
  have r3' := cle r3
  have q14 : (0 : Rat) < 10 ^ 14 := by decide +kernel
  have e14 : ((10 ^ 14 : Int) : Rat) = 10 ^ 14 := by decide +kernel
  constructor
  · refine l.mono ?_ Rat.le_refl
    rw [pq]
    rw [Rat.intCast_mul, e14] at r2'
    generalize ((2 * lows 10 1 (10 ^ 60) 350 : Int) : Rat) = V at *
    generalize (10 : Rat) ^ 46 = A at *
    generalize (10 : Rat) ^ 14 = B at *
    refine le_of_mul (Rat.mul_pos p q14) ?_
    have e1 : A * B * ((tenD : Rat) / A) = tenD * B := by grind
    have e2 : A * B * (V / (A * B)) = V := by grind
    rw [e1, e2]; exact r2'
  · refine u.mono ?_ Rat.le_refl
    rw [pq]
    rw [Rat.intCast_mul, e14] at r3'
    generalize ((2 * lows 10 1 (10 ^ 60) 350 + 4 * (2 * ((350 : Nat) : Int) + 1) + 4 : Int) : Rat) = V at *
    generalize (10 : Rat) ^ 46 = A at *
    generalize (10 : Rat) ^ 14 = B at *
    refine le_of_mul (Rat.mul_pos p q14) ?_
    have e1 : A * B * (((tenD + 1 : Int) : Rat) / A) = ((tenD + 1 : Int) : Rat) * B := by grind
    have e2 : A * B * (V / (A * B)) = V := by grind
    rw [e1, e2]; exact r3'
end Lg

/- the exponential's rows (for law 08) -/
namespace Lg
/-- 1 / T! -/
noncomputable def cc : Nat → Rat
  | 0 => 1
  | T + 1 => cc T / ((T + 1 : Nat) : Rat)
/-- the first T + 1 terms of e ** u -/
noncomputable def Ee (u : Rat) : Nat → Rat
  | 0 => 1
  | T + 1 => Ee u T + u ^ (T + 1) * cc (T + 1)
theorem cc_pos : ∀ T, 0 < cc T
  | 0 => by decide
  | T + 1 => by
    have := cc_pos T
    have h : (0 : Rat) < ((T + 1 : Nat) : Rat) := npos (by lia)
    rw [cc]
    have := Rat.mul_pos this (inv_pos h)
    grind
theorem cc_succ (T : Nat) : ((T + 1 : Nat) : Rat) * cc (T + 1) = cc T := by
  have h : (0 : Rat) < ((T + 1 : Nat) : Rat) := npos (by lia)
  rw [cc]; grind
theorem cc_le : ∀ T, cc T ≤ 1
  | 0 => by decide
  | T + 1 => by
    have := cc_le T
    have p := cc_pos (T + 1)
    have e := cc_succ T
    have h : (1 : Rat) ≤ ((T + 1 : Nat) : Rat) := by exact_mod_cast (show 1 ≤ T + 1 by lia)
    have m := Rat.mul_le_mul_of_nonneg_left h (show 0 ≤ cc (T + 1) by grind)
    grind
theorem pow_chord {a d : Rat} (ha : 0 ≤ a) (hd : 0 ≤ d) : ∀ T : Nat, ((T + 1 : Nat) : Rat) * d * a ^ T ≤ (a + d) ^ (T + 1) - a ^ (T + 1) ∧ (a + d) ^ (T + 1) - a ^ (T + 1) ≤ ((T + 1 : Nat) : Rat) * d * (a + d) ^ T
  | 0 => by simp [Rat.pow_succ, Rat.pow_zero]; constructor <;> grind
  | T + 1 => by
    obtain ⟨l, u⟩ := pow_chord ha hd T
    have p0 := pow_nonneg ha T
    have p1 := pow_nonneg ha (T + 1)
    have q0 := pow_nonneg (show 0 ≤ a + d by grind) T
    have q1 := pow_nonneg (show 0 ≤ a + d by grind) (T + 1)
    have mono := pow_le_pow ha (show a ≤ a + d by grind) (T + 1)
    have e : ((T + 1 + 1 : Nat) : Rat) = ((T + 1 : Nat) : Rat) + 1 := by push_cast; rfl
    rw [e, Rat.pow_succ (a + d) (T + 1), Rat.pow_succ a (T + 1)]
    have ea : a ^ (T + 1) = a ^ T * a := Rat.pow_succ _ _
    have eb : (a + d) ^ (T + 1) = (a + d) ^ T * (a + d) := Rat.pow_succ _ _
    have ml := Rat.mul_le_mul_of_nonneg_left l ha
    have mu := Rat.mul_le_mul_of_nonneg_left u (show 0 ≤ a + d by grind)
    have md := Rat.mul_le_mul_of_nonneg_left mono hd
    generalize ((T + 1 : Nat) : Rat) = n at *
    constructor
    · have x1 : a * (n * d * a ^ T) = n * d * a ^ (T + 1) := by rw [ea]; grind
      rw [x1] at ml
      grind
    · have x1 : (a + d) * (n * d * (a + d) ^ T) = n * d * (a + d) ^ (T + 1) := by rw [eb]; grind
      rw [x1] at mu
      grind
theorem Ee_chord {a d : Rat} (ha : 0 ≤ a) (hd : 0 ≤ d) : ∀ T : Nat, d * Ee a T ≤ Ee (a + d) (T + 1) - Ee a (T + 1) ∧ Ee (a + d) (T + 1) - Ee a (T + 1) ≤ d * Ee (a + d) T
  | 0 => by
    simp only [Ee, cc]
    simp [Rat.pow_succ, Rat.pow_zero]
    constructor <;> grind
  | T + 1 => by
    obtain ⟨l, u⟩ := Ee_chord ha hd T
    obtain ⟨pl, pu⟩ := pow_chord ha hd (T + 1)
    have c0 := cc_pos (T + 1 + 1)
    have e := cc_succ (T + 1)
    have ml := Rat.mul_le_mul_of_nonneg_left pl (show 0 ≤ cc (T + 1 + 1) by grind)
    have mu := Rat.mul_le_mul_of_nonneg_left pu (show 0 ≤ cc (T + 1 + 1) by grind)
    have ea2 : Ee a (T + 1 + 1) = Ee a (T + 1) + a ^ (T + 1 + 1) * cc (T + 1 + 1) := rfl
    have eb2 : Ee (a + d) (T + 1 + 1) = Ee (a + d) (T + 1) + (a + d) ^ (T + 1 + 1) * cc (T + 1 + 1) := rfl
    have ea1 : Ee a (T + 1) = Ee a T + a ^ (T + 1) * cc (T + 1) := rfl
    have eb1 : Ee (a + d) (T + 1) = Ee (a + d) T + (a + d) ^ (T + 1) * cc (T + 1) := rfl
    rw [ea2, eb2]
    generalize ((T + 1 + 1 : Nat) : Rat) = n at *
    have x1 : cc (T + 1 + 1) * (n * d * a ^ (T + 1)) = (n * cc (T + 1 + 1)) * (d * a ^ (T + 1)) := by grind
    have x2 : cc (T + 1 + 1) * (n * d * (a + d) ^ (T + 1)) = (n * cc (T + 1 + 1)) * (d * (a + d) ^ (T + 1)) := by grind
    rw [x1, e] at ml
    rw [x2, e] at mu
    have g1 : d * Ee a (T + 1) = d * Ee a T + d * (a ^ (T + 1) * cc (T + 1)) := by rw [ea1, Rat.mul_add]
    have g2 : d * Ee (a + d) (T + 1) = d * Ee (a + d) T + d * ((a + d) ^ (T + 1) * cc (T + 1)) := by rw [eb1, Rat.mul_add]
    rw [g1, g2]
    clear x1 x2 g1 g2 ea1 eb1 ea2 eb2 e pl pu
    generalize (a + d) ^ (T + 1 + 1) = X2 at *
    generalize (a + d) ^ (T + 1) = X1 at *
    generalize a ^ (T + 1 + 1) = Y2 at *
    generalize a ^ (T + 1) = Y1 at *
    generalize cc (T + 1 + 1) = c2 at *
    generalize cc (T + 1) = c1 at *
    generalize Ee a (T + 1) = A1 at *
    generalize Ee (a + d) (T + 1) = B1 at *
    constructor <;> grind
theorem Ee_ge {u : Rat} (hu : 0 ≤ u) : ∀ T, 1 ≤ Ee u T
  | 0 => by rw [Ee]; exact Rat.le_refl
  | T + 1 => by
    have := Ee_ge hu T
    have := Rat.mul_nonneg (pow_nonneg hu (T + 1)) (show 0 ≤ cc (T + 1) by have := cc_pos (T + 1); grind)
    rw [Ee]; grind
theorem Ee_last {u c : Rat} (hu : 0 ≤ u) (hc : u ≤ c) (T : Nat) : Ee u T ≤ Ee u (T + 1) ∧ Ee u (T + 1) ≤ Ee u T + c ^ (T + 1) := by
  have p := pow_nonneg hu (T + 1)
  have q := pow_le_pow hu hc (T + 1)
  have c0 := cc_pos (T + 1)
  have c1 := cc_le (T + 1)
  have := Rat.mul_nonneg p (show 0 ≤ cc (T + 1) by grind)
  have := Rat.mul_le_mul_of_nonneg_left c1 p
  rw [Ee]
  constructor <;> grind
theorem Ee_zero : ∀ T, Ee 0 T = 1
  | 0 => rfl
  | T + 1 => by
    rw [Ee, Ee_zero T, Rat.pow_succ]; grind
/-- from a to a + d -/
theorem Ee_way {c : Rat} (T m : Nat) (hm : 0 < m) {u : Rat} (hu : 0 ≤ u) (hc : u ≤ c) (hc1 : c ≤ 1 / 4) : ∀ i : Nat, i ≤ m →
    LO (i * (u / m) * (1 - c ^ (T + 1) - u / m)) (Ee (i * (u / m)) (T + 1)) ∧ UP (i * (u / m) * (1 + 2 * (u / m))) (Ee (i * (u / m)) (T + 1)) := by
  intro i
  have hmr := npos hm
  have hm1 : (1 : Rat) ≤ m := by exact_mod_cast hm
  have d0 : 0 ≤ u / m := by have := Rat.mul_nonneg hu (show 0 ≤ 1 / (m : Rat) by have := inv_pos hmr; grind); grind
  have du : u / m ≤ u := by refine le_of_mul hmr ?_; have : (m : Rat) * (u / m) = u := by grind
                            have := Rat.mul_le_mul_of_nonneg_left hm1 hu; grind
  have mu : (m : Rat) * (u / m) = u := by grind
  generalize hd : u / m = d at *
  induction i with
  | zero =>
    intro _
    have e : ((0 : Nat) : Rat) * d = 0 := by grind
    rw [e, Ee_zero]
    have e1 : (0 : Rat) * (1 - c ^ (T + 1) - d) = 0 := by grind
    have e2 : (0 : Rat) * (1 + 2 * d) = 0 := by grind
    rw [e1, e2]
    exact ⟨LO.one, UP.one⟩
  | succ i ih =>
    intro hi
    obtain ⟨l, up⟩ := ih (by lia)
    have i0 : (0 : Rat) ≤ (i : Rat) := by exact_mod_cast Nat.zero_le i
    have im : (i : Rat) + 1 ≤ m := by exact_mod_cast hi
    have a0 := Rat.mul_nonneg i0 d0
    have ac : (i : Rat) * d + d ≤ u := by
      have := Rat.mul_le_mul_of_nonneg_left im d0; grind
    have e : ((i + 1 : Nat) : Rat) * d = (i : Rat) * d + d := by push_cast; grind
    rw [e]
    generalize (i : Rat) * d = a at *
    have ch := Ee_chord a0 d0 T
    have f0 := Ee_ge a0 (T + 1)
    have f1 := Ee_ge (show 0 ≤ a + d by grind) (T + 1)
    have la := Ee_last (c := c) a0 (by grind) T
    have lb := Ee_last (c := c) (show 0 ≤ a + d by grind) (by grind) T
    generalize Ee a (T + 1) = f at *
    generalize Ee (a + d) (T + 1) = g at *
    generalize Ee a T = fa at *
    generalize Ee (a + d) T = ga at *
    generalize hp : c ^ (T + 1) = p at *
    have p0 : 0 ≤ p := by rw [← hp]; exact pow_nonneg (by grind) _
    have ef : f = 1 + (f - 1) := by grind
    have eg : g = 1 + ((f - 1) + (g - f)) := by grind
    have gd : g - f ≤ d * g := by
      have := Rat.mul_le_mul_of_nonneg_left lb.1 d0; grind
    constructor
    · rw [ef] at l
      have s := LO.step (t := f - 1) (h := g - f) (by grind) (by grind) l
      rw [← eg] at s
      refine s.mono ?_ Rat.le_refl
      have k : d * (1 - p - d) ≤ (g - f) / g := by
        refine le_of_mul (show 0 < g by grind) ?_
        have e2 : g * ((g - f) / g) = g - f := by grind
        rw [e2]
        have h1 := Rat.mul_le_mul_of_nonneg_left (show f - p ≤ fa by grind) d0
        have h2 := Rat.mul_le_mul_of_nonneg_left gd d0
        have h3 := Rat.mul_nonneg (Rat.mul_nonneg d0 p0) (show 0 ≤ g - 1 by grind)
        grind
      grind
    · rw [ef] at up
      have s := UP.step (t := f - 1) (h := g - f) (by grind) up
      rw [← eg] at s
      refine s.mono ?_ Rat.le_refl
      have k : (g - f) / (1 + (f - 1)) ≤ d * (1 + 2 * d) := by
        refine le_of_mul (show 0 < 1 + (f - 1) by grind) ?_
        have e2 : (1 + (f - 1)) * ((g - f) / (1 + (f - 1))) = g - f := by grind
        rw [e2]
        have d4 : d ≤ 1 / 4 := by grind
        -- g (1 - d) ≤ f
        have h1 := Rat.mul_le_mul_of_nonneg_left (show g * (1 - d) ≤ f by grind) (Rat.mul_nonneg d0 (show 0 ≤ 1 + 2 * d by grind))
        have h2 := Rat.mul_nonneg (Rat.mul_nonneg d0 d0) (Rat.mul_nonneg (show 0 ≤ g by grind) (show 0 ≤ 1 - 2 * d by grind))
        grind
      grind
theorem Ee_log {c u : Rat} (T : Nat) (hu : 0 ≤ u) (hc : u ≤ c) (hc1 : c ≤ 1 / 4) : LO (u * (1 - c ^ (T + 1))) (Ee u (T + 1)) ∧ UP u (Ee u (T + 1)) := by
  constructor
  · refine LO.lim fun e he => ?_
    obtain ⟨m, hm, hb⟩ := lim_aux (C := u * u) he
    have w := (Ee_way T m hm hu hc hc1 m (Nat.le_refl _)).1
    have hmr := npos hm
    have e1 : (m : Rat) * (u / m) = u := by grind
    rw [e1] at w
    refine w.mono ?_ Rat.le_refl
    have : u * (u / m) = u * u / m := by grind
    grind
  · refine UP.lim fun e he => ?_
    obtain ⟨m, hm, hb⟩ := lim_aux (C := 2 * (u * u)) he
    have w := (Ee_way T m hm hu hc hc1 m (Nat.le_refl _)).2
    have hmr := npos hm
    have e1 : (m : Rat) * (u / m) = u := by grind
    rw [e1] at w
    refine w.mono ?_ Rat.le_refl
    have : u * (2 * (u / m)) = 2 * (u * u) / m := by grind
    grind
end Lg

/- _iexp: what it computes, in rationals (for law 08) -/
namespace Lg
noncomputable def exDn (x Ms : Int) : Nat → Int → Int
  | 0, y => y
  | k + 1, y => exDn x Ms k (divN (x * (Ms + y)) (Ms * ((k : Int) + 1)))
noncomputable def gDn (u : Rat) : Nat → Rat → Rat
  | 0, g => g
  | k + 1, g => gDn u k (u * (1 / ((k + 1 : Nat) : Rat)) * (1 + g))
theorem gDn_Ee (u : Rat) : ∀ (k : Nat) (g : Rat), 1 + gDn u k g = Ee u k + u ^ k * cc k * g
  | 0, g => by simp only [gDn, Ee, cc, Rat.pow_zero]; grind
  | k + 1, g => by
    have e : Ee u (k + 1) = Ee u k + u ^ (k + 1) * cc (k + 1) := rfl
    have ec : cc (k + 1) = cc k * (1 / ((k + 1 : Nat) : Rat)) := by rw [cc]; grind
    rw [gDn, gDn_Ee u k, e, ec, Rat.pow_succ]
    generalize u ^ k = X
    generalize cc k = c
    generalize (1 / ((k + 1 : Nat) : Rat)) = n
    grind
theorem gDn_rows (u : Rat) {T : Nat} (hT : 1 ≤ T) : 1 + gDn u (T - 1) (u * (1 / (T : Rat))) = Ee u T := by
  obtain ⟨k, rfl⟩ : ∃ k, T = k + 1 := ⟨T - 1, by lia⟩
  have e : k + 1 - 1 = k := by lia
  rw [e, gDn_Ee]
  have e1 : Ee u (k + 1) = Ee u k + u ^ (k + 1) * cc (k + 1) := rfl
  have ec : cc (k + 1) = cc k * (1 / ((k + 1 : Nat) : Rat)) := by rw [cc]; grind
  rw [e1, ec, Rat.pow_succ]
  grind
theorem ex_turn {x Ms y k : Int} (hM : 1 ≤ Ms) (hk : 1 ≤ k) {u g : Rat} (hu : u = x * (1 / (Ms : Rat))) (hu0 : 0 ≤ u) (hu1 : u ≤ 1 / 256) (h : Ab ((y : Rat) * (1 / Ms) - g) (1 / Ms * (502 / 1000))) :
    Ab ((divN (x * (Ms + y)) (Ms * k) : Rat) * (1 / Ms) - u * (1 / (k : Rat)) * (1 + g)) (1 / Ms * (502 / 1000)) := by
  have hm := clt (show (0 : Int) < Ms by lia)
  have hkr := clt (show (0 : Int) < k by lia)
  have hk1 := cle hk
  have hpos : 0 < Ms * k := Int.mul_pos (by lia) (by lia)
  have d := divN_r (a := x * (Ms + y)) (b := Ms * k) hpos
  push_cast at hm hkr hk1 d
  have hmi := inv_pos hm
  have hki := inv_pos hkr
  have hk2 : 1 / (k : Rat) ≤ 1 := by have := inv_le (show (0 : Rat) < 1 by grind) hk1; grind
  have e : (x : Rat) * (Ms + y) / (Ms * k) = Ms * (u * (1 / k) * (1 + y * (1 / Ms))) := by rw [hu]; grind
  rw [e] at d
  have uk : Ab (u * (1 / (k : Rat))) (1 / 256) := by
    have A : Ab u (1 / 256) := ⟨by grind, hu1⟩
    have B : Ab (1 / (k : Rat)) 1 := ⟨by grind, hk2⟩
    have := A.mul B
    exact this.le (by grind)
  have m := uk.mul h
  have hh : Ab (1 / (Ms : Rat)) (1 / Ms) := ⟨by grind, Rat.le_refl⟩
  have r := (hh.mul d).add m
  have mi : 1 / (Ms : Rat) * Ms = 1 := by grind
  have e2 : 1 / (Ms : Rat) * ((divN (x * (Ms + y)) (Ms * k) : Rat) - Ms * (u * (1 / k) * (1 + y * (1 / Ms)))) + u * (1 / (k : Rat)) * ((y : Rat) * (1 / Ms) - g) = (divN (x * (Ms + y)) (Ms * k) : Rat) * (1 / Ms) - u * (1 / (k : Rat)) * (1 + g) := by
    have w : 1 / (Ms : Rat) * (Ms * (u * (1 / k) * (1 + y * (1 / Ms)))) = u * (1 / k) * (1 + y * (1 / Ms)) := by rw [← Rat.mul_assoc, mi, Rat.one_mul]
    have ms : ∀ a b c : Rat, a * (b - c) = a * b - a * c := by intros; grind
    rw [ms, w]
    clear w r m uk e d
    generalize u * (1 / (k : Rat)) = a
    generalize (1 / (Ms : Rat)) = b
    generalize (divN (x * (Ms + y)) (Ms * k) : Rat) = c
    grind
  rw [e2] at r
  exact r.le (by grind)
theorem ex_all {x Ms : Int} (hM : 1 ≤ Ms) {u : Rat} (hu : u = x * (1 / (Ms : Rat))) (hu0 : 0 ≤ u) (hu1 : u ≤ 1 / 256) : ∀ (k : Nat) (y : Int) (g : Rat), Ab ((y : Rat) * (1 / Ms) - g) (1 / Ms * (502 / 1000)) →
    Ab ((exDn x Ms k y : Rat) * (1 / Ms) - gDn u k g) (1 / Ms * (502 / 1000))
  | 0, y, g, h => h
  | k + 1, y, g, h => by
    rw [exDn, gDn]
    refine ex_all hM hu hu0 hu1 k _ _ ?_
    have t := ex_turn hM (k := (k : Int) + 1) (by lia) hu hu0 hu1 h
    have e : ((k + 1 : Nat) : Rat) = (((k : Int) + 1 : Int) : Rat) := by push_cast; rfl
    rw [e]; exact t
theorem divN_nonneg {a b : Int} (ha : 0 ≤ a) (hb : 0 < b) : 0 ≤ divN a b := by
  have := (divN_facts (a := a) hb).1
  rcases Int.lt_or_le (divN a b) 0 with x | x
  · have h := Int.mul_le_mul_of_nonneg_left (show divN a b ≤ -1 by lia) (show 0 ≤ b by lia)
    lia
  · exact x
theorem exDn_nonneg {x Ms : Int} (hx : 0 ≤ x) (hM : 1 ≤ Ms) : ∀ (k : Nat) (y : Int), 0 ≤ y → 0 ≤ exDn x Ms k y
  | 0, _, h => h
  | k + 1, y, h => by
    rw [exDn]
    exact exDn_nonneg hx hM k _ (divN_nonneg (Int.mul_nonneg hx (by lia)) (Int.mul_pos (by lia) (by lia)))
/-- the doublings -/
noncomputable def dbDn (M : Int) : Nat → Int → Int
  | 0, y => y
  | k + 1, y => dbDn M k (divN (y * (y + M * 2 ^ (k + 2))) (M * 2 ^ (k + 2)))
theorem db_turn {M y : Int} {k : Nat} (hM : 1000 ≤ M) (hy : 0 ≤ y) : 0 ≤ divN (y * (y + M * 2 ^ (k + 2))) (M * 2 ^ (k + 2)) ∧
    (∀ r, LO r (vv M y (k + 1)) → LO (2 * r - 501 / 1000 * (1 / M) * (1 / 2 ^ k)) (vv M (divN (y * (y + M * 2 ^ (k + 2))) (M * 2 ^ (k + 2))) k)) ∧
    (∀ r, UP r (vv M y (k + 1)) → UP (2 * r + 501 / 1000 * (1 / M) * (1 / 2 ^ k)) (vv M (divN (y * (y + M * 2 ^ (k + 2))) (M * 2 ^ (k + 2))) k)) := by
  have hp := pw_pos (k + 2)
  have hD : 0 < M * 2 ^ (k + 2) := Int.mul_pos (by lia) hp
  have nn : 0 ≤ divN (y * (y + M * 2 ^ (k + 2))) (M * 2 ^ (k + 2)) := divN_nonneg (Int.mul_nonneg hy (by lia)) hD
  refine ⟨nn, ?_⟩
  have d := divN_r (a := y * (y + M * 2 ^ (k + 2))) (b := M * 2 ^ (k + 2)) hD
  have hm := clt (show (0 : Int) < M by lia)
  have h1000 : 1 / (M : Rat) ≤ 1 / 1000 := by have := inv_of (n := 1000) (by decide) hM; push_cast at this; exact this
  have h2 := two_pos k
  have h21 : (1 : Rat) ≤ 2 ^ k := by have := pow_le_pow (show (0 : Rat) ≤ 1 by grind) (show (1 : Rat) ≤ 2 by grind) k; rwa [one_pow] at this
  have h2i := inv_pos h2
  have h2l : 1 / (2 : Rat) ^ k ≤ 1 := by have := inv_le (show (0 : Rat) < 1 by grind) h21; grind
  have a1 := vv_ge (j := k + 1) (show 1 ≤ M by lia) hy
  have e4 : (((2 : Int) ^ (k + 2) : Int) : Rat) = 4 * 2 ^ k := by
    rw [cast_two, Rat.pow_succ, Rat.pow_succ]; grind
  push_cast at hm
  have hmi := inv_pos hm
  generalize hz : divN (y * (y + M * 2 ^ (k + 2))) (M * 2 ^ (k + 2)) = z at *
  rw [Rat.intCast_mul, Rat.intCast_add, Rat.intCast_mul, e4] at d
  have key : Ab (vv M z k - vv M y (k + 1) * vv M y (k + 1)) (1 / M * (1 / 2 ^ k) * (1 / 2)) := by
    rw [a_eq]
    unfold vv
    generalize (2 : Rat) ^ k = K at *
    have hh : Ab (1 / (M : Rat) * (1 / K)) (1 / M * (1 / K)) := by
      have := Rat.mul_pos hmi h2i
      exact ⟨by grind, Rat.le_refl⟩
    have r := hh.mul d
    have e : 1 / (M : Rat) * (1 / K) * ((z : Rat) - (y : Rat) * (y + M * (4 * K)) / (M * (4 * K))) = 1 + (z : Rat) * (1 / K) * (1 / M) - (1 + (y : Rat) * (1 / K) * (1 / M) / 2) * (1 + (y : Rat) * (1 / K) * (1 / M) / 2) := by
      have mi : (M : Rat) * (1 / M) = 1 := by grind
      have ki : K * (1 / K) = 1 := by grind
      have di : 1 / ((M : Rat) * (4 * K)) = (1 / M) * (1 / K) / 4 := by grind
      have dv : (y : Rat) * (y + M * (4 * K)) / (M * (4 * K)) = (y : Rat) * (y + M * (4 * K)) * (1 / (M * (4 * K))) := by grind
      rw [dv, di]
      have i4 : (y : Rat) * (y + M * (4 * K)) * (1 / M * (1 / K) / 4) = y * y * (1 / M) * (1 / K) / 4 + y * ((M * (1 / M)) * (K * (1 / K))) := by
        generalize (1 / (M : Rat)) = b
        generalize (1 / K) = c
        grind
      rw [i4, mi, ki]
      generalize (1 / (M : Rat)) = b
      generalize (1 / K) = c
      grind
    rw [e] at r
    exact r
  have hX : (1 / 2 : Rat) * (1 + 501 / 1000 * (1 / M) * (1 / 2 ^ k)) ≤ 501 / 1000 * (vv M y (k + 1) * vv M y (k + 1)) := by
    have s := mul_le_mul a1 a1 (show (0 : Rat) ≤ 1 by grind) (by grind)
    have m := mul_le_mul h1000 h2l (show (0 : Rat) ≤ 1 / M by grind) (by grind)
    generalize vv M y (k + 1) * vv M y (k + 1) = q at *
    grind
  obtain ⟨_, l, u⟩ := back (show 0 < vv M y (k + 1) by grind) hmi h2i (show (0 : Rat) ≤ 501 / 1000 by grind) key hX
  exact ⟨l, u⟩
theorem db_all {M : Int} (hM : 1000 ≤ M) : ∀ (n : Nat) (y : Int), 0 ≤ y → 0 ≤ dbDn M n y ∧
    (∀ r, LO r (vv M y n) → LO (2 ^ n * r - n * (501 / 1000) * (1 / M)) (vv M (dbDn M n y) 0)) ∧ (∀ r, UP r (vv M y n) → UP (2 ^ n * r + n * (501 / 1000) * (1 / M)) (vv M (dbDn M n y) 0))
  | 0, y, hy => by
    refine ⟨hy, fun r hr => ?_, fun r hr => ?_⟩
    · have e : (2 : Rat) ^ 0 * r - ((0 : Nat) : Rat) * (501 / 1000) * (1 / M) = r := by rw [Rat.pow_zero]; grind
      rw [e]; exact hr
    · have e : (2 : Rat) ^ 0 * r + ((0 : Nat) : Rat) * (501 / 1000) * (1 / M) = r := by rw [Rat.pow_zero]; grind
      rw [e]; exact hr
  | n + 1, y, hy => by
    obtain ⟨z0, l, u⟩ := db_turn (k := n) hM hy
    obtain ⟨i0, il, iu⟩ := db_all hM n _ z0
    have h2 := two_pos n
    have e6 : (2 : Rat) ^ n * (1 / 2 ^ n) = 1 := by grind
    have ep : (2 : Rat) ^ (n + 1) = 2 ^ n * 2 := Rat.pow_succ _ _
    have en : ((n + 1 : Nat) : Rat) = (n : Rat) + 1 := by push_cast; rfl
    refine ⟨i0, fun r hr => ?_, fun r hr => ?_⟩
    · have := il _ (l r hr)
      have e : (2 : Rat) ^ (n + 1) * r - ((n + 1 : Nat) : Rat) * (501 / 1000) * (1 / M) = 2 ^ n * (2 * r - 501 / 1000 * (1 / M) * (1 / 2 ^ n)) - (n : Rat) * (501 / 1000) * (1 / M) := by
        rw [ep, en]
        have : (2 : Rat) ^ n * (2 * r - 501 / 1000 * (1 / M) * (1 / 2 ^ n)) = 2 ^ n * (2 * r) - 501 / 1000 * (1 / M) * (2 ^ n * (1 / 2 ^ n)) := by grind
        rw [this, e6]; grind
      rw [e]; exact this
    · have := iu _ (u r hr)
      have e : (2 : Rat) ^ (n + 1) * r + ((n + 1 : Nat) : Rat) * (501 / 1000) * (1 / M) = 2 ^ n * (2 * r + 501 / 1000 * (1 / M) * (1 / 2 ^ n)) + (n : Rat) * (501 / 1000) * (1 / M) := by
        rw [ep, en]
        have : (2 : Rat) ^ n * (2 * r + 501 / 1000 * (1 / M) * (1 / 2 ^ n)) = 2 ^ n * (2 * r) + 501 / 1000 * (1 / M) * (2 ^ n * (1 / 2 ^ n)) := by grind
        rw [this, e6]; grind
      rw [e]; exact this
end Lg
namespace Lg
noncomputable def iexpN (x M : Int) (R T : Nat) : Int := M + dbDn M R (exDn x (M * 2 ^ R) (T - 1) (divN x T))
/-- what _iexp computes is e ** (x / M) but for 9 / M -/
theorem exp_good {x M : Int} {R T : Nat} (hM : 1000 ≤ M) (hx : 0 ≤ x) (hx3 : x ≤ 3 * M) (hR : x * 256 < M * 2 ^ R) (hR10 : R ≤ 10) (hT : 1 ≤ T) (hMT : (M : Rat) ≤ 256 ^ T) :
    M ≤ iexpN x M R T ∧ LO (((x : Rat) - 9) * (1 / M)) ((iexpN x M R T : Rat) / M) ∧ UP (((x : Rat) + 9) * (1 / M)) ((iexpN x M R T : Rat) / M) := by
  have hp := pw_pos R
  have hMs : 1 ≤ M * 2 ^ R := by have := Int.mul_pos (show 0 < M by lia) hp; lia
  have hm := clt (show (0 : Int) < M by lia)
  have hmi := inv_pos hm
  have h2 := two_pos R
  have hxr := cle hx
  have hx3r := cle hx3
  have hRr := clt hR
  have cM : ((M * 2 ^ R : Int) : Rat) = M * 2 ^ R := by rw [Rat.intCast_mul, cast_two]
  rw [Rat.intCast_mul x, cM] at hRr
  push_cast at hm hmi hxr hx3r hRr
  have hMsr : (0 : Rat) < M * 2 ^ R := Rat.mul_pos hm h2
  obtain ⟨k, rfl⟩ : ∃ k, T = k + 1 := ⟨T - 1, by lia⟩
  have ek : k + 1 - 1 = k := by lia
  -- u
  generalize hu : (x : Rat) * (1 / ((M * 2 ^ R : Int) : Rat)) = u
  have hu' := hu
  rw [cM] at hu'
  have uM : u * (M * 2 ^ R) = x := by rw [← hu']; grind
  have u0 : 0 ≤ u := by refine le_of_mul hMsr ?_; grind
  have u1 : u ≤ 1 / 256 := by refine le_of_mul hMsr ?_; grind
  have y0 : 0 ≤ divN x ((k + 1 : Nat) : Int) := divN_nonneg hx (by lia)
  have st : Ab ((divN x ((k + 1 : Nat) : Int) : Rat) * (1 / ((M * 2 ^ R : Int) : Rat)) - u * (1 / ((k + 1 : Nat) : Rat))) (1 / ((M * 2 ^ R : Int) : Rat) * (502 / 1000)) := by
    have d := divN_r (a := x) (b := ((k + 1 : Nat) : Int)) (by lia)
    have ec : ((((k + 1 : Nat) : Int)) : Rat) = ((k + 1 : Nat) : Rat) := by norm_cast
    rw [ec] at d
    rw [cM]
    have hi := inv_pos hMsr
    have hh : Ab (1 / ((M : Rat) * 2 ^ R)) (1 / (M * 2 ^ R)) := ⟨by grind, Rat.le_refl⟩
    have r := hh.mul d
    have hk : (0 : Rat) < ((k + 1 : Nat) : Rat) := npos (by lia)
    have e : 1 / ((M : Rat) * 2 ^ R) * ((divN x ((k + 1 : Nat) : Int) : Rat) - (x : Rat) / ((k + 1 : Nat) : Rat)) = (divN x ((k + 1 : Nat) : Int) : Rat) * (1 / (M * 2 ^ R)) - u * (1 / ((k + 1 : Nat) : Rat)) := by
      have dv : (x : Rat) / ((k + 1 : Nat) : Rat) = x * (1 / ((k + 1 : Nat) : Rat)) := by grind
      rw [dv, ← hu']
      generalize 1 / ((M : Rat) * 2 ^ R) = b
      generalize 1 / ((k + 1 : Nat) : Rat) = c
      grind
    rw [e] at r
    exact r.le (by grind)
  have al := ex_all hMs hu.symm u0 u1 k _ _ st
  have nn := exDn_nonneg hx hMs k _ y0
  have gr := gDn_rows u (T := k + 1) (by lia)
  rw [ek] at gr
  obtain ⟨lo, up⟩ := Ee_log (c := 1 / 256) k u0 u1 (by grind)
  unfold iexpN
  rw [ek]
  generalize exDn x (M * 2 ^ R) k (divN x ((k + 1 : Nat) : Int)) = y at *
  obtain ⟨z0, dl, du⟩ := db_all hM R y nn
  refine ⟨by lia, ?_⟩
  have ev : ((M + dbDn M R y : Int) : Rat) / M = vv M (dbDn M R y) 0 := by
    unfold vv
    rw [Rat.pow_zero]
    push_cast
    grind
  rw [ev]
  rw [← gr] at lo up
  generalize gDn u k (u * (1 / ((k + 1 : Nat) : Rat))) = g at *
  have g0 : 0 ≤ g := by have := Ee_ge u0 (k + 1); rw [← gr] at this; grind
  rw [cM] at al
  have evv : vv M y R = 1 + (g + ((y : Rat) * (1 / (M * 2 ^ R)) - g)) := by
    unfold vv
    have : 1 / ((M : Rat) * 2 ^ R) = (1 / 2 ^ R) * (1 / M) := by grind
    rw [this]; grind
  have v1 := vv_ge (j := R) (show 1 ≤ M by lia) nn
  generalize hh : (y : Rat) * (1 / (M * 2 ^ R)) - g = h at *
  have hs0 := inv_pos hMsr
  have sM : 2 ^ R * (1 / ((M : Rat) * 2 ^ R)) = 1 / M := by grind
  have R10 : (R : Rat) ≤ 10 := by exact_mod_cast hR10
  have R0 : (0 : Rat) ≤ (R : Rat) := by exact_mod_cast Nat.zero_le R
  have mR := Rat.mul_le_mul_of_nonneg_left R10 (show (0 : Rat) ≤ 1 / M by grind)
  have uR : 2 ^ R * u = x * (1 / M) := by
    have : 2 ^ R * u = 2 ^ R * (x * (1 / ((M : Rat) * 2 ^ R))) := by rw [hu']
    rw [this]
    have : 2 ^ R * ((x : Rat) * (1 / ((M : Rat) * 2 ^ R))) = x * (2 ^ R * (1 / ((M : Rat) * 2 ^ R))) := by grind
    rw [this, sM]
  constructor
  · have s := LO.step (t := g) (h := h) (by grind) (by rw [← evv]; grind) lo
    rw [← evv] at s
    have s2 := dl _ s
    refine s2.mono ?_ Rat.le_refl
    -- the rows left out
    have pc : (1 / 256 : Rat) ^ (k + 1) ≤ 1 / M := by
      have i256 : (1 / 256 : Rat) * 256 = 1 := by grind
      have e : (1 / 256 : Rat) ^ (k + 1) * 256 ^ (k + 1) = 1 := by rw [← mul_pow, i256, one_pow]
      have p0 := pow_pos (show (0 : Rat) < 1 / 256 by grind) (k + 1)
      refine le_of_mul hm ?_
      have m1 := Rat.mul_le_mul_of_nonneg_left hMT (show (0 : Rat) ≤ (1 / 256) ^ (k + 1) by grind)
      grind
    have k1 : -(1 / ((M : Rat) * 2 ^ R) * (502 / 1000)) ≤ h / vv M y R := by
      refine le_of_mul (show 0 < vv M y R by grind) ?_
      have e : vv M y R * (h / vv M y R) = h := by grind
      rw [e]
      have m2 := Rat.mul_le_mul_of_nonneg_left v1 (show (0 : Rat) ≤ 1 / ((M : Rat) * 2 ^ R) * (502 / 1000) by grind)
      obtain ⟨a1, a2⟩ := al
      grind
    have k2 := Rat.mul_le_mul_of_nonneg_left k1 (show (0 : Rat) ≤ 2 ^ R by grind)
    have k3 : 2 ^ R * -(1 / ((M : Rat) * 2 ^ R) * (502 / 1000)) = -(1 / M * (502 / 1000)) := by
      have : 2 ^ R * -(1 / ((M : Rat) * 2 ^ R) * (502 / 1000)) = -((2 ^ R * (1 / ((M : Rat) * 2 ^ R))) * (502 / 1000)) := by grind
      rw [this, sM]
    rw [k3] at k2
    have mi : (M : Rat) * (1 / M) = 1 := by grind
    have xM : (x : Rat) * (1 / M) ≤ 3 := by
      refine le_of_mul hm ?_
      have : (M : Rat) * (x * (1 / M)) = x * (M * (1 / M)) := by
        generalize 1 / (M : Rat) = b
        grind
      rw [this, mi]
      clear this k2 k3 k1 s2 s evv uR hu hu' uM al lo up
      grind
    have x0 : 0 ≤ (x : Rat) * (1 / M) := Rat.mul_nonneg (by grind) (by grind)
    have k4 := mul_le_mul xM pc x0 (by grind)
    have k5 : 2 ^ R * (u * (1 - (1 / 256) ^ (k + 1)) + h / vv M y R) = x * (1 / M) - x * (1 / M) * (1 / 256) ^ (k + 1) + 2 ^ R * (h / vv M y R) := by
      have : 2 ^ R * (u * (1 - (1 / 256) ^ (k + 1)) + h / vv M y R) = (2 ^ R * u) - (2 ^ R * u) * (1 / 256) ^ (k + 1) + 2 ^ R * (h / vv M y R) := by
        generalize h / vv M y R = q
        generalize (1 / 256 : Rat) ^ (k + 1) = p
        grind
      rw [this, uR]
    rw [k5]
    generalize 2 ^ R * (h / vv M y R) = q at *
    generalize (1 / 256 : Rat) ^ (k + 1) = p at *
    generalize 1 / (M : Rat) = b at *
    grind
  · have s := UP.step (t := g) (h := h) (by grind) up
    rw [← evv] at s
    have s2 := du _ s
    refine s2.mono ?_ Rat.le_refl
    have k1 : h / (1 + g) ≤ 1 / ((M : Rat) * 2 ^ R) * (502 / 1000) := by
      refine le_of_mul (show 0 < 1 + g by grind) ?_
      have e : (1 + g) * (h / (1 + g)) = h := by grind
      rw [e]
      have m2 := Rat.mul_nonneg g0 (show (0 : Rat) ≤ 1 / ((M : Rat) * 2 ^ R) * (502 / 1000) by grind)
      obtain ⟨a1, a2⟩ := al
      grind
    have k2 := Rat.mul_le_mul_of_nonneg_left k1 (show (0 : Rat) ≤ 2 ^ R by grind)
    have k3 : 2 ^ R * (1 / ((M : Rat) * 2 ^ R) * (502 / 1000)) = 1 / M * (502 / 1000) := by
      have : 2 ^ R * (1 / ((M : Rat) * 2 ^ R) * (502 / 1000)) = (2 ^ R * (1 / ((M : Rat) * 2 ^ R))) * (502 / 1000) := by grind
      rw [this, sM]
    rw [k3] at k2
    have k5 : 2 ^ R * (u + h / (1 + g)) = x * (1 / M) + 2 ^ R * (h / (1 + g)) := by
      have : 2 ^ R * (u + h / (1 + g)) = 2 ^ R * u + 2 ^ R * (h / (1 + g)) := Rat.mul_add _ _ _
      rw [this, uR]
    rw [k5]
    generalize 2 ^ R * (h / (1 + g)) = q at *
    generalize 1 / (M : Rat) = b at *
    grind
end Lg

section
open PySem PySem.W PyProof.Rows
namespace Mine
open Lg
/-- the first q + 1 signs of log 10 -/
noncomputable def tenQ (q : Int) : Int := tenD / 10 ^ (46 - q.toNat)
theorem ten_text_all : ∀ n : Nat, n < 47 → PySem.intText? (Txt.slice (Str.ofString "23025850929940456840179914546843642076011014886") none (some ((n : Int) + 1))) = some (tenD / 10 ^ (46 - n)) ∧ (Txt.slice (Str.ofString "23025850929940456840179914546843642076011014886") none (some ((n : Int) + 1))).length ≤ 640 := by
  decide +kernel
theorem ten_text {q : Int} (h0 : 0 ≤ q) (h1 : q ≤ 46) : PySem.intText? (Txt.slice (Str.ofString "23025850929940456840179914546843642076011014886") none (some (q + 1))) = some (tenQ q) ∧ (Txt.slice (Str.ofString "23025850929940456840179914546843642076011014886") none (some (q + 1))).length ≤ 640 := by
  have := ten_text_all q.toNat (by lia)
  have e : ((q.toNat : Nat) : Int) = q := by lia
  rw [e] at this
  exact this
end Mine

end
section
open PySem PySem.W PyProof.Rows
namespace Mine
open Lg
structure ExPre (x M : Int) : Prop where
  sc : Scale M
  m4 : 1000 ≤ M
  x0 : 0 ≤ x
  x3 : x ≤ 3 * M
theorem pow2_le {a b : Nat} (h : a ≤ b) : (2 : Int) ^ a ≤ 2 ^ b := by
  have := Nat.pow_le_pow_right (n := 2) (by decide) h
  exact_mod_cast this
theorem pow710 : (2 : Nat) ^ 710 = 1024 * 2 ^ 700 := by rw [← Nat.pow_add (m := 10) (n := 700) (a := 2)]
theorem bits_ex {x M : Int} (h : ExPre x M) : Builtin.Int.intBits x ≤ 710 := by
  have h1 := bits_scale h.sc
  rw [PySem.intBits_le_iff] at *
  have := h.x0
  have := h.x3
  have := h.m4
  rw [pow710]
  generalize (2 : Nat) ^ 700 = C at *
  lia
theorem M_dv8 {x M : Int} (h : ExPre x M) : M ≠ 0 ∧ M.natAbs.log2 < 9000 := ⟨by have := h.m4; lia, (sz_scale h.sc).log⟩
/-- the doublings' number -/
noncomputable def exR (x M : Int) : Int := (Builtin.Int.intBits ((x * 2 ^ Int.toNat 8).fdiv M) : Nat)
theorem exR_facts {x M : Int} (h : ExPre x M) : 0 ≤ exR x M ∧ exR x M ≤ 10 ∧ x * 256 < M * 2 ^ (exR x M).toNat := by
  have hM := h.m4
  have h0 := h.x0
  have h3 := h.x3
  have e8 : (2 : Int) ^ Int.toNat 8 = 256 := by decide
  unfold exR
  rw [e8]
  have f := fdiv_b (a := x * 256) (b := M) (by lia)
  have n0 : 0 ≤ (x * 256).fdiv M := by rw [fd (by lia)]; exact Int.ediv_nonneg (by lia) (by lia)
  generalize hv : (x * 256).fdiv M = v at *
  have v1 : v ≤ 768 := by
    rcases Int.lt_or_le 768 v with c | c
    · have := Int.mul_le_mul_of_nonneg_left (show 769 ≤ v by lia) (show 0 ≤ M by lia)
      lia
    · exact c
  have b : Builtin.Int.intBits v ≤ 10 := by rw [PySem.intBits_le_iff]; lia
  refine ⟨by lia, by lia, ?_⟩
  have g : Builtin.Int.intBits v ≤ Builtin.Int.intBits v := Nat.le_refl _
  rw [PySem.intBits_le_iff] at g
  generalize Builtin.Int.intBits v = k at *
  have ek : ((k : Nat) : Int).toNat = k := by lia
  rw [ek]
  have c : v + 1 ≤ (2 : Int) ^ k := by
    have e : ((2 ^ k : Nat) : Int) = (2 : Int) ^ k := by push_cast; rfl
    rw [← e]
    generalize (2 : Nat) ^ k = B at *
    lia
  have m := Int.mul_le_mul_of_nonneg_left c (show 0 ≤ M by lia)
  rw [Int.mul_add] at m
  lia
/-- the rows' loop -/
noncomputable def exFold (x Ms y : Int) (ks : List Int) : Int := ks.foldl (fun y i => divN (x * (Ms + y)) (Ms * i)) y
structure EX (x M R y₀ : Int) (pre : List Int) (y : Int) : Prop where
  px : ExPre x M
  hR : R = exR x M
  ye : y = exFold x (M * 2 ^ R.toNat) y₀ pre
  lb : pre.length ≤ 100
  y0 : 0 ≤ y
  yb : y ≤ M * 2 ^ R.toNat
theorem Ms_facts {x M R : Int} (h : ExPre x M) (hR : R = exR x M) : 1 ≤ M * 2 ^ R.toNat ∧ x * 256 < M * 2 ^ R.toNat ∧ M * 2 ^ R.toNat ≤ M * 1024 := by
  have f := exR_facts h
  rw [← hR] at f
  have hM := h.m4
  have p := pw_pos R.toNat
  have c : (2 : Int) ^ R.toNat ≤ 1024 := by
    have : R.toNat ≤ 10 := by lia
    exact pow2_le this
  have m1 := Int.mul_le_mul_of_nonneg_left (show 1 ≤ (2 : Int) ^ R.toNat by lia) (show 0 ≤ M by lia)
  have m2 := Int.mul_le_mul_of_nonneg_left c (show 0 ≤ M by lia)
  exact ⟨by lia, f.2.2, m2⟩
theorem bits_Ms {x M R : Int} (h : ExPre x M) (hR : R = exR x M) : Builtin.Int.intBits (M * 2 ^ R.toNat) ≤ 720 := by
  have f := Ms_facts h hR
  have h1 := bits_scale h.sc
  rw [PySem.intBits_le_iff] at *
  have e : (2 : Nat) ^ 720 = 1048576 * 2 ^ 700 := by rw [← Nat.pow_add (m := 20) (n := 700) (a := 2)]
  rw [e]
  generalize (2 : Nat) ^ 700 = C at *
  generalize M * 2 ^ R.toNat = m at *
  lia
theorem ex_start {x M R T : Int} (h : ExPre x M) (hR : R = exR x M) (hT : 1 ≤ T) : EX x M R (divN x T) [] (divN x T) := by
  have f := Ms_facts h hR
  have h0 := h.x0
  refine ⟨h, hR, rfl, by decide, divN_nonneg h0 (by lia), ?_⟩
  have d := divN_abs (a := x) (b := T) (by lia)
  have nn := divN_nonneg (a := x) (b := T) h0 (by lia)
  lia
theorem ex_dv {x M R y₀ y k : Int} {pre : List Int} (h : EX x M R y₀ pre y) (hk : 1 ≤ k) (hk2 : k ≤ 84) : 0 < M * 2 ^ R.toNat * k ∧ Sz (M * 2 ^ R.toNat * k) := by
  have f := Ms_facts h.px h.hR
  refine ⟨Int.mul_pos (by lia) (by lia), Sz.of_bits (PyProof.Rows.bits_mul (bits_Ms h.px h.hR) (show Builtin.Int.intBits k ≤ 64 by rw [PySem.intBits_le_iff]; lia)) (by decide)⟩
theorem bits_exy {x M R y₀ y : Int} {pre : List Int} (h : EX x M R y₀ pre y) : Builtin.Int.intBits y ≤ 720 := by
  have b := bits_Ms h.px h.hR
  rw [PySem.intBits_le_iff] at *
  have := h.y0
  have := h.yb
  lia
theorem ex_up {x M R y₀ y k : Int} {pre : List Int} (h : EX x M R y₀ pre y) (hk : 1 ≤ k) (hl : pre.length < 100) : EX x M R y₀ (pre ++ [k]) (divN (x * (M * 2 ^ R.toNat + y)) (M * 2 ^ R.toNat * k)) := by
  have f := Ms_facts h.px h.hR
  have y0 := h.y0
  have yb := h.yb
  have x0 := h.px.x0
  refine ⟨h.px, h.hR, ?_, by simp; lia, ?_, ?_⟩
  · unfold exFold
    rw [List.foldl_append, h.ye]
    rfl
  · exact divN_nonneg (Int.mul_nonneg x0 (by lia)) (Int.mul_pos (by lia) (by lia))
  · have d := divN_facts (a := x * (M * 2 ^ R.toNat + y)) (b := M * 2 ^ R.toNat * k) (Int.mul_pos (by lia) (by lia))
    generalize divN (x * (M * 2 ^ R.toNat + y)) (M * 2 ^ R.toNat * k) = z at *
    generalize M * 2 ^ R.toNat = Ms at *
    rcases Int.lt_or_le Ms z with c | c
    · exfalso
      have m1 : x * (Ms + y) ≤ x * (2 * Ms) := Int.mul_le_mul_of_nonneg_left (by lia) x0
      have m2 : Ms * k * (2 * x + 2) ≤ Ms * k * z := Int.mul_le_mul_of_nonneg_left (by lia) (Int.mul_nonneg (by lia) (by lia))
      have m3 : Ms * 1 ≤ Ms * k := Int.mul_le_mul_of_nonneg_left hk (by lia)
      have m4 : Ms * 1 * (2 * x) ≤ Ms * k * (2 * x) := Int.mul_le_mul_of_nonneg_right m3 (by lia)
      have e1 : Ms * k * (2 * x + 2) = Ms * k * (2 * x) + 2 * (Ms * k) := by grind
      have e2 : x * (2 * Ms) = Ms * 1 * (2 * x) := by grind
      have p : 0 < Ms * k := Int.mul_pos (by lia) (by lia)
      lia
    · exact c
/-- the doublings' loop -/
noncomputable def dbFold (M y : Int) (ks : List Int) : Int := ks.foldl (fun y k => divN (y * (y + M * 2 ^ (k + 2).toNat)) (M * 2 ^ (k + 2).toNat)) y
structure DB (x M R y₀ : Int) (pre : List Int) (y : Int) : Prop where
  px : ExPre x M
  hR : R = exR x M
  ye : y = dbFold M y₀ pre
  y0 : 0 ≤ y
  lb : pre.length ≤ 10
  yb : Builtin.Int.intBits y + 2 ≤ 800 * 2 ^ pre.length
theorem db_start {x M R y₀ y : Int} {pre : List Int} (h : EX x M R y₀ pre y) : DB x M R y [] y :=
  ⟨h.px, h.hR, rfl, h.y0, by decide, by have := bits_exy h; show _ ≤ 800 * 2 ^ 0; lia⟩
theorem db_dv {x M R y₀ y k : Int} {pre : List Int} (h : DB x M R y₀ pre y) (h0 : 0 ≤ k) (h1 : k ≤ 9) : 0 < M * 2 ^ (k + 2).toNat ∧ Sz (M * 2 ^ (k + 2).toNat) := by
  have hM := h.px.m4
  have p := pw_pos (k + 2).toNat
  refine ⟨Int.mul_pos (by lia) p, Sz.of_bits (PyProof.Rows.bits_mul (bits_scale h.px.sc) (show Builtin.Int.intBits (2 ^ (k + 2).toNat) ≤ 64 from ?_)) (by decide)⟩
  rw [PySem.intBits_le_iff]
  have : (2 : Int) ^ (k + 2).toNat ≤ 2 ^ 11 := pow2_le (by lia)
  have e : (2 : Int) ^ 11 = 2048 := by decide
  have e2 : (2 : Nat) ^ 64 = 18446744073709551616 := by decide
  lia
theorem bits_dby {x M R y₀ y : Int} {pre : List Int} (h : DB x M R y₀ pre y) : Builtin.Int.intBits y ≤ 819200 := by
  have := h.yb
  have : 2 ^ pre.length ≤ 2 ^ 10 := Nat.pow_le_pow_right (by decide) h.lb
  lia
theorem db_up {x M R y₀ y k : Int} {pre : List Int} (h : DB x M R y₀ pre y) (h0 : 0 ≤ k) (h1 : k ≤ 9) (hl : pre.length < 10) : DB x M R y₀ (pre ++ [k]) (divN (y * (y + M * 2 ^ (k + 2).toNat)) (M * 2 ^ (k + 2).toNat)) := by
  have dv := (db_dv h h0 h1).1
  have y0 := h.y0
  refine ⟨h.px, h.hR, ?_, divN_nonneg (Int.mul_nonneg y0 (by lia)) dv, by simp; lia, ?_⟩
  · unfold dbFold
    rw [List.foldl_append, h.ye]
    rfl
  · have d := divN_facts (a := y * (y + M * 2 ^ (k + 2).toNat)) dv
    generalize divN (y * (y + M * 2 ^ (k + 2).toNat)) (M * 2 ^ (k + 2).toNat) = z at *
    generalize M * 2 ^ (k + 2).toNat = Ms at *
    have zb : z ≤ y * y + y + 1 := by
      rcases Int.lt_or_le (y * y + y + 1) z with c | c
      · exfalso
        have m := Int.mul_le_mul_of_nonneg_left (show y * y + y + 2 ≤ z by lia) (show 0 ≤ Ms by lia)
        have m2 := Int.mul_le_mul_of_nonneg_right (show 1 ≤ Ms by lia) (show 0 ≤ y * y from Int.mul_nonneg y0 y0)
        have e1 : Ms * (y * y + y + 2) = Ms * (y * y) + Ms * y + 2 * Ms := by grind
        have e2 : y * (y + Ms) = y * y + Ms * y := by grind
        lia
      · exact c
    have zn : -1 ≤ z := by
      rcases Int.lt_or_le z (-1) with c | c
      · exfalso
        have m := Int.mul_le_mul_of_nonneg_left (show z ≤ -2 by lia) (show 0 ≤ Ms by lia)
        have := Int.mul_nonneg y0 (show 0 ≤ y + Ms by lia)
        lia
      · exact c
    have b := h.yb
    have b2 : Builtin.Int.intBits y ≤ Builtin.Int.intBits y := Nat.le_refl _
    have zb2 : Builtin.Int.intBits z ≤ 2 * Builtin.Int.intBits y + 1 := by
      rw [PySem.intBits_le_iff] at b2 ⊢
      generalize Builtin.Int.intBits y = n at *
      have e : (2 : Nat) ^ (2 * n + 1) = 2 * (2 ^ n * 2 ^ n) := by rw [Nat.pow_succ, Nat.mul_comm 2 n, Nat.pow_mul]; grind
      rw [e]
      generalize (2 : Nat) ^ n = C at *
      have m : (y + 1) * (y + 1) ≤ (C : Int) * C := Int.mul_le_mul (by lia) (by lia) (by lia) (by lia)
      have e3 : (y + 1) * (y + 1) = y * y + 2 * y + 1 := by grind
      have e4 : ((2 * (C * C) : Nat) : Int) = 2 * ((C : Int) * C) := by push_cast; rfl
      have c1 : (1 : Int) * 1 ≤ (C : Int) * C := Int.mul_le_mul (by lia) (by lia) (by lia) (by lia)
      have : (z.natAbs : Int) < ((2 * (C * C) : Nat) : Int) := by rw [e4]; lia
      lia
    rw [List.length_append, List.length_singleton, Nat.pow_succ]
    lia
theorem exFold_down (x Ms : Int) : ∀ (n : Nat) (w : Int), exFold x Ms w (downKs (n : Int) n) = exDn x Ms n w
  | 0, w => rfl
  | n + 1, w => by
    have e : downKs ((n + 1 : Nat) : Int) (n + 1) = ((n : Int) + 1) :: downKs (n : Int) n := by
      unfold downKs
      rw [List.range_succ_eq_map, List.map_cons, List.map_map]
      refine List.cons_eq_cons.mpr ⟨by lia, List.map_congr_left fun i _ => ?_⟩
      simp only [Function.comp]
      lia
    rw [e, exDn]
    show exFold x Ms (divN (x * (Ms + w)) (Ms * ((n : Int) + 1))) (downKs (n : Int) n) = _
    exact exFold_down x Ms n _
theorem dbFold_down (M : Int) : ∀ (n : Nat) (w : Int), dbFold M w (downKs ((n : Int) - 1) n) = dbDn M n w
  | 0, w => rfl
  | n + 1, w => by
    have e : downKs (((n + 1 : Nat) : Int) - 1) (n + 1) = (n : Int) :: downKs ((n : Int) - 1) n := by
      unfold downKs
      rw [List.range_succ_eq_map, List.map_cons, List.map_map]
      refine List.cons_eq_cons.mpr ⟨by lia, List.map_congr_left fun i _ => ?_⟩
      simp only [Function.comp]
      lia
    rw [e, dbDn]
    have e2 : ((n : Int) + 2).toNat = n + 2 := by lia
    show dbFold M (divN (w * (w + M * 2 ^ ((n : Int) + 2).toNat)) (M * 2 ^ ((n : Int) + 2).toNat)) (downKs ((n : Int) - 1) n) = _
    rw [e2]
    exact dbFold_down M n _
/-- _iexp -/
noncomputable def iexp (x M : Int) : Int := iexpN x M (exR x M).toNat (TT M)
theorem iexp_tree {x M R T y z : Int} {n j : Nat} (hT : T = TI M) (h1 : 1 ≤ T) (hb : EX x M R (divN x T) (downKs (T - 1) n) y) (hn : (n : Int) = T - 1) (hd : DB x M R y (downKs (R - 1) j) z) (hj : (j : Int) = R) : M + z = iexp x M := by
  unfold iexp iexpN
  rw [← hb.hR]
  have tt : TT M = T.toNat := by unfold TT; rw [hT]
  have ec : ((TT M : Nat) : Int) = T := by rw [tt]; lia
  have en : TT M - 1 = n := by rw [tt]; lia
  have ej : R.toNat = j := by lia
  rw [ec, en, hd.ye, hb.ye, ← hn, ← hj]
  have ej2 : ((j : Nat) : Int).toNat = j := by lia
  rw [exFold_down, dbFold_down, ej2]
section
variable {prog : Program} {w : World} {A : Around} {E : Value → Shared → Prop} {s : Shared} {t u : Tok} {Q : Value → Shared → Prop}
theorem nb_rule {x M : Int} (h : ExPre x M) (q : ∀ R : Int, R = exR x M → 0 ≤ R → R ≤ 10 → Q (.int R s.toks) { s with toks := s.toks + 1 }) :
    wpAny (model prog w) A (call (.builtin "int.bit_length") [.int ((x * 2 ^ Int.toNat 8).fdiv M) t]) Q E s :=
  PyProof.Rows.call_int_bit_length (q _ rfl (exR_facts h).1 (exR_facts h).2.1)
end
end Mine

end
section
open PySem PySem.W PyProof.Rows
namespace Mine
open Lg
theorem ten_pos (k : Nat) : (0 : Int) < 10 ^ k := Int.pow_pos (by decide)
theorem ten_le {a b : Nat} (h : a ≤ b) : (10 : Int) ^ a ≤ 10 ^ b := by
  have := Nat.pow_le_pow_right (n := 10) (by decide) h
  exact_mod_cast this
theorem ten_add (a b : Nat) : (10 : Int) ^ (a + b) = 10 ^ a * 10 ^ b := Int.pow_add _ _ _
theorem bits_ten {k : Int} (h : k ≤ 1000) : Builtin.Int.intBits (10 ^ k.toNat) ≤ 4001 :=
  Nat.le_trans (PySem.intBits_pow_le (m := 4) (PySem.intBits_le_iff.mpr (by decide)) k.toNat) (by lia)
theorem pow10_ok {k : Int} (h : k ≤ 1000000) : (Builtin.Int.intBits 10 : Int) * k ≤ 2 ^ 27 := by
  have e : Builtin.Int.intBits 10 = 4 := by decide +kernel
  have e2 : (2 : Int) ^ 27 = 134217728 := by decide
  rw [e, e2]; lia
theorem ten_dv {k : Int} (h : k ≤ 1000) : 0 < (10 : Int) ^ k.toNat ∧ Sz (10 ^ k.toNat) := ⟨ten_pos _, Sz.of_bits (bits_ten h) (by decide)⟩
theorem dv_small {k : Int} (h1 : 1 ≤ k) (h2 : k ≤ 100000) : 0 < k ∧ Sz k := ⟨by lia, Sz.of_bits (m := 64) (by rw [PySem.intBits_le_iff]; lia) (by decide)⟩
theorem scale_ten {k : Int} (h : k ≤ 200) (h2 : 2 ≤ k) : Scale (10 ^ k.toNat) := ⟨by have := ten_pos k.toNat; lia, ten_le (by lia), by have : (10 : Int) ^ 2 ≤ 10 ^ k.toNat := ten_le (by lia); have e : (10 : Int) ^ 2 = 100 := (by decide); lia⟩
/-- an int below 10 ** 40 -/
theorem bits40 {a : Int} (h1 : -(10 ^ 40) ≤ a) (h2 : a ≤ 10 ^ 40) : Builtin.Int.intBits a ≤ 140 := by
  rw [PySem.intBits_le_iff]
  have e1 : (10 : Int) ^ 40 = 10000000000000000000000000000000000000000 := by decide
  have e2 : (2 : Nat) ^ 140 = 1393796574908163946345982392040522594123776 := by decide
  rw [e1] at h1 h2
  rw [e2]
  lia
theorem str_small {a : Int} {m : Nat} (h : Builtin.Int.intBits a ≤ m) (hm : m ≤ 1900) : a.natAbs.log2 < 1920 := by
  rw [PySem.intBits_le_iff] at h
  by_cases h0 : a.natAbs = 0
  · rw [h0]; decide +kernel
  · have := (Nat.log2_lt h0).mpr h
    lia
theorem dg_ge {M : Int} (h : 1 ≤ M) : (10 : Int) ^ (dg M - 1) ≤ M := by
  rcases Int.lt_or_le M (10 ^ (dg M - 1)) with x | x
  · exfalso
    have p := dg_pos (M := M) (by lia)
    rcases Nat.lt_or_ge 0 (dg M - 1) with y | y
    · have := dg_le (M := M) (by lia) y x
      lia
    · have e : dg M - 1 = 0 := by lia
      rw [e] at x
      simp at x
      lia
  · exact x
structure DlPre (c e p : Int) : Prop where
  c1 : 1 ≤ c
  c2 : c < 10 ^ 31
  e1 : -30 ≤ e
  e2 : e ≤ 30
  p1 : 0 ≤ p
  p2 : p ≤ 35
theorem bits_dlc {c e p : Int} (h : DlPre c e p) : Builtin.Int.intBits c ≤ 140 := by
  have := h.c1
  have := h.c2
  have : (10 : Int) ^ 31 ≤ 10 ^ 40 := ten_le (by decide)
  have := ten_pos 40
  exact bits40 (by lia) (by lia)
theorem dg31 {c e p : Int} (h : DlPre c e p) : 1 ≤ dg c ∧ dg c ≤ 31 := ⟨dg_pos (by have := h.c1; lia), dg_le (by have := h.c1; lia) (by decide) h.c2⟩
noncomputable def dlF (c e : Int) : Int := e + (dg c : Int) - if 1 ≤ e + (dg c : Int) then 1 else 0
noncomputable def dlC (c e P : Int) : Int := if 0 ≤ e + P - dlF c e then c * 10 ^ (e + P - dlF c e).toNat else divN c (10 ^ (-(e + P - dlF c e)).toNat)
noncomputable def ab (f : Int) : Int := if f < 0 then -f else f
noncomputable def dlX (f : Int) : Int := (dg (ab f) : Int) - 1
noncomputable def dlT (f P : Int) : Int := if f = 0 then 0 else divN (f * tenQ (P + dlX f)) (10 ^ (dlX f).toNat)
/-- _dlog -/
noncomputable def dlog (c e p : Int) : Int := divN (dlT (dlF c e) (p + 2) + ilog (dlC c e (p + 2)) (10 ^ (p + 2).toNat)) 100
theorem dlF_facts {c e p : Int} (h : DlPre c e p) : -30 ≤ dlF c e ∧ dlF c e ≤ 60 ∧ ((1 ≤ e + (dg c : Int) ∧ dlF c e = e + dg c - 1) ∨ (¬ 1 ≤ e + (dg c : Int) ∧ dlF c e = e + dg c)) := by
  have d := dg31 h
  have := h.e1
  have := h.e2
  unfold dlF
  split <;> lia
theorem dlX_facts {f : Int} (h1 : -30 ≤ f) (h2 : f ≤ 60) : 0 ≤ dlX f ∧ dlX f ≤ 1 := by
  unfold dlX ab
  have a : 0 ≤ (if f < 0 then -f else f) := by split <;> lia
  have p := dg_pos a
  have q := dg_le (k := 2) a (by decide) (by split <;> lia)
  lia
/-- the number handed to _ilog lies from a tenth of the scale to ten times it -/
theorem dl_pre {c e p : Int} (h : DlPre c e p) : Pre (dlC c e (p + 2)) (10 ^ (p + 2).toNat) := by
  have d := dg31 h
  have c1 := h.c1
  have lo := dg_ge c1
  have hi := dg_lt (M := c) (by lia)
  have f := dlF_facts h
  have p1 := h.p1
  have p2 := h.p2
  have hP : (p + 2).toNat = p.toNat + 2 := by lia
  -- c lies from 10 ** (m + j) to 10 ** (m + j + 1), j one below or at the scale
  have key : ∀ j : Nat, (j = (p + 2).toNat ∨ j + 1 = (p + 2).toNat) → e + (p + 2) - dlF c e = (j : Int) - ((dg c : Int) - 1) → 10 ^ j ≤ dlC c e (p + 2) ∧ dlC c e (p + 2) ≤ 10 ^ (j + 1) := by
    intro j hj ek
    unfold dlC
    rw [ek]
    split
    · rename_i hk
      have e1 : ((j : Int) - ((dg c : Int) - 1)).toNat = j - (dg c - 1) := by lia
      rw [e1]
      have e2 : (10 : Int) ^ j = 10 ^ (dg c - 1) * 10 ^ (j - (dg c - 1)) := by rw [← ten_add]; congr 1; lia
      have e3 : (10 : Int) ^ (j + 1) = 10 ^ dg c * 10 ^ (j - (dg c - 1)) := by rw [← ten_add]; congr 1; lia
      have q := ten_pos (j - (dg c - 1))
      rw [e2, e3]
      exact ⟨Int.mul_le_mul_of_nonneg_right lo (by lia), Int.mul_le_mul_of_nonneg_right (by lia) (by lia)⟩
    · rename_i hk
      have e1 : (-((j : Int) - ((dg c : Int) - 1))).toNat = (dg c - 1) - j := by lia
      rw [e1]
      have e2 : (10 : Int) ^ (dg c - 1) = 10 ^ (dg c - 1 - j) * 10 ^ j := by rw [← ten_add]; congr 1; lia
      have e3 : (10 : Int) ^ dg c = 10 ^ (dg c - 1 - j) * 10 ^ (j + 1) := by rw [← ten_add]; congr 1; lia
      rw [e2] at lo
      rw [e3] at hi
      have q := ten_pos (dg c - 1 - j)
      have fa := divN_facts (a := c) q
      generalize divN c (10 ^ (dg c - 1 - j)) = z at *
      generalize (10 : Int) ^ (dg c - 1 - j) = m at *
      generalize (10 : Int) ^ (j + 1) = B at *
      generalize (10 : Int) ^ j = A at *
      constructor
      · rcases Int.lt_or_le z A with x | x
        · exfalso
          have := Int.mul_le_mul_of_nonneg_left (show z ≤ A - 1 by lia) (show 0 ≤ m by lia)
          rw [Int.mul_sub] at this
          lia
        · exact x
      · rcases Int.lt_or_le B z with x | x
        · exfalso
          have := Int.mul_le_mul_of_nonneg_left (show B + 1 ≤ z by lia) (show 0 ≤ m by lia)
          rw [Int.mul_add] at this
          lia
        · exact x
  have fin : ∀ j : Nat, (j = (p + 2).toNat ∨ j + 1 = (p + 2).toNat) → 10 ^ j ≤ dlC c e (p + 2) ∧ dlC c e (p + 2) ≤ 10 ^ (j + 1) → Pre (dlC c e (p + 2)) (10 ^ (p + 2).toNat) := by
    intro j hj k
    refine ⟨scale_ten (by lia) (by lia), ?_, ?_⟩
    · have : (10 : Int) ^ (p + 2).toNat ≤ 10 ^ (j + 1) := ten_le (by lia)
      have e : (10 : Int) ^ (j + 1) = 10 ^ j * 10 := Int.pow_succ _ _
      lia
    · have : (10 : Int) ^ (j + 1) ≤ 10 ^ ((p + 2).toNat + 1) := ten_le (by lia)
      have e : (10 : Int) ^ ((p + 2).toNat + 1) = 10 ^ (p + 2).toNat * 10 := Int.pow_succ _ _
      lia
  rcases f.2.2 with ⟨a, b⟩ | ⟨a, b⟩
  · exact fin (p + 2).toNat (Or.inl rfl) (key _ (Or.inl rfl) (by lia))
  · exact fin ((p + 2).toNat - 1) (Or.inr (by lia)) (key _ (Or.inr (by lia)) (by lia))
theorem dl_pre_p {c e p f : Int} (h : DlPre c e p) (hf : f = dlF c e) (hk : 0 ≤ e + (p + 2) - f) : Pre (c * 10 ^ (e + (p + 2) - f).toNat) (10 ^ (p + 2).toNat) := by
  have := dl_pre h
  unfold dlC at this
  rw [← hf, if_pos hk] at this
  exact this
theorem dl_pre_n {c e p f : Int} (h : DlPre c e p) (hf : f = dlF c e) (hk : ¬ 0 ≤ e + (p + 2) - f) : Pre (divN c (10 ^ (-(e + (p + 2) - f)).toNat)) (10 ^ (p + 2).toNat) := by
  have := dl_pre h
  unfold dlC at this
  rw [← hf, if_neg hk] at this
  exact this
theorem tenQ_b (q : Int) : 0 ≤ tenQ q ∧ tenQ q ≤ tenD := by
  unfold tenQ
  have p := ten_pos (46 - q.toNat)
  have hD : (0 : Int) ≤ tenD := by decide
  refine ⟨Int.ediv_nonneg hD (by lia), ?_⟩
  exact Int.ediv_le_self _ hD
theorem bits_tenQ (q : Int) : Builtin.Int.intBits (tenQ q) ≤ 160 := by
  have := tenQ_b q
  rw [PySem.intBits_le_iff]
  have e : (2 : Nat) ^ 160 = 1461501637330902918203684832716283019655932542976 := by decide
  have e2 : tenD = 23025850929940456840179914546843642076011014886 := rfl
  rw [e]
  lia
theorem dl_tree_pt {c e p f X : Int} (hf : f = dlF c e) (hk : 0 ≤ e + (p + 2) - f) (h0 : f ≠ 0) (hX : X = dlX f) :
    divN (divN (f * tenQ (p + 2 + X)) (10 ^ X.toNat) + ilog (c * 10 ^ (e + (p + 2) - f).toNat) (10 ^ (p + 2).toNat)) 100 = dlog c e p := by
  unfold dlog dlC dlT
  rw [← hf, if_pos hk, if_neg h0, ← hX]
theorem dl_tree_nt {c e p f X : Int} (hf : f = dlF c e) (hk : ¬ 0 ≤ e + (p + 2) - f) (h0 : f ≠ 0) (hX : X = dlX f) :
    divN (divN (f * tenQ (p + 2 + X)) (10 ^ X.toNat) + ilog (divN c (10 ^ (-(e + (p + 2) - f)).toNat)) (10 ^ (p + 2).toNat)) 100 = dlog c e p := by
  unfold dlog dlC dlT
  rw [← hf, if_neg hk, if_neg h0, ← hX]
theorem dl_tree_pz {c e p f : Int} (hf : f = dlF c e) (hk : 0 ≤ e + (p + 2) - f) (h0 : f = 0) :
    divN (0 + ilog (c * 10 ^ (e + (p + 2) - f).toNat) (10 ^ (p + 2).toNat)) 100 = dlog c e p := by
  unfold dlog dlC dlT
  rw [← hf, if_pos hk, if_pos h0]
theorem dl_tree_nz {c e p f : Int} (hf : f = dlF c e) (hk : ¬ 0 ≤ e + (p + 2) - f) (h0 : f = 0) :
    divN (0 + ilog (divN c (10 ^ (-(e + (p + 2) - f)).toNat)) (10 ^ (p + 2).toNat)) 100 = dlog c e p := by
  unfold dlog dlC dlT
  rw [← hf, if_neg hk, if_pos h0]
theorem str_ab {f : Int} (h1 : -30 ≤ f) (h2 : f ≤ 60) : (if f < 0 then -f else f).natAbs.log2 < 1920 :=
  str_small (m := 64) (by rw [PySem.intBits_le_iff]; split <;> lia) (by decide)
section
variable {prog : Program} {w : World} {A : Around} {E : Value → Shared → Prop} {s : Shared} {t u : Tok} {Q : Value → Shared → Prop}
theorem len_c {c e p : Int} (h : DlPre c e p) (q : ∀ D : Int, D = (dg c : Int) → 1 ≤ D → D ≤ 31 → Q (.int D (s.toks + 1)) { s with toks := s.toks + 1 + 1 }) :
    wpAny (model prog w) A (call (.builtin "len") [.str (Str.ofString (toString c)) t]) Q E s := by
  have d := dg31 h
  unfold dg at d
  exact PyProof.Rows.SBL.len (by lia) (q _ rfl (by lia) (by lia))
theorem f_sub {c e p D : Int} (h : DlPre c e p) (hD : D = (dg c : Int)) (q : ∀ f : Int, f = dlF c e → -30 ≤ f → f ≤ 60 → Q (.int f s.toks) { s with toks := s.toks + 1 }) :
    wpAny (model prog w) A (binaryOp .Sub (.int (e + D) t) (.bool (decide (1 ≤ e + D)))) Q E s := by
  have d := dlF_facts h
  refine IntBool.sub_int_bool ?_
  have e1 : (e + D - if decide (1 ≤ e + D) = true then 1 else 0) = dlF c e := by
    subst hD
    unfold dlF
    simp only [decide_eq_true_eq]
  rw [e1]
  exact q _ rfl d.1 d.2.1
theorem len_f {f : Int} (h1 : -30 ≤ f) (h2 : f ≤ 60) (q : ∀ D : Int, D - 1 = dlX f → 1 ≤ D → D ≤ 2 → Q (.int D (s.toks + 1)) { s with toks := s.toks + 1 + 1 }) :
    wpAny (model prog w) A (call (.builtin "len") [.str (Str.ofString (toString (if f < 0 then -f else f))) t]) Q E s := by
  have d := dlX_facts h1 h2
  have e : ((Str.ofString (toString (if f < 0 then -f else f))).length : Int) - 1 = dlX f := rfl
  exact PyProof.Rows.SBL.len (by lia) (q _ e (by lia) (by lia))
end
section
variable {M : Model} {A : Around} {E : Value → Shared → Prop} {s : Shared} {K : Frag} {env : Env} {pos : Pos} {first : List Value} {Q : Value → Shared → Prop}
/-- a bound method that the text's top keeps is called -/
theorem callWith_KM {h₀ : Heap} {q g : Addr} {self : Value} {e : PySem.Expr} {rest : List PySem.Expr} (_X : K.In h₀) (hq : K.lookup q = some (methodObj (.ref g) self)) (hf : fnIn K g = true)
    (h : wpAny M A (spliced (backTo pos (starEach (e :: rest) env))) (fun vs s₁ => K.In s₁.heap ∧ wpAny M A (call (.ref q) (first ++ vs)) Q E s₁) E s)
    (he : starEach (e :: rest) env = (false, eval e env) :: starEach rest env := by rfl) (hplain : (backTo pos (starEach rest env)).any (·.1) = false := by rfl) :
    wpAny M A (callWith pos (.ref q) first (backTo pos (starEach (e :: rest) env)) []) Q E s := by
  rw [he] at h ⊢
  exact callWith_of (P := fun h => K.In h) (by show ((false || (backTo pos (starEach rest env)).any (·.1)) || false) = false; rw [hplain]; rfl) (fun h X => keeps_M hf h ⟨X _ _ hq, X⟩) (PySem.Calls.evalArgs_plain h)
end
end Mine

end
section
open PySem PySem.W PyProof.Rows
namespace Mine
open Lg
theorem dg_any {c : Int} (h0 : c ≠ 0) : (c.natAbs : Int) < 10 ^ dg c ∧ 1 ≤ dg c := by
  rcases Int.lt_or_le c 0 with x | x
  · have e : dg c = 1 + dg (0 - c) := len_text_neg x
    have l := dg_lt (M := 0 - c) (by lia)
    have : (10 : Int) ^ dg (0 - c) ≤ 10 ^ dg c := ten_le (by lia)
    lia
  · have l := dg_lt x
    have := dg_pos x
    lia
theorem dg_any_le {c : Int} {k : Nat} (hk : 0 < k) (h : (c.natAbs : Int) < 10 ^ k) : dg c ≤ k + 1 := by
  rcases Int.lt_or_le c 0 with x | x
  · have e : dg c = 1 + dg (0 - c) := len_text_neg x
    have := dg_le (M := 0 - c) (k := k) (by lia) hk (by lia)
    lia
  · have := dg_le (M := c) (k := k) x hk (by lia)
    lia
structure DxPre (c p : Int) : Prop where
  c0 : c ≠ 0
  cb : (c.natAbs : Int) < 10 ^ (p.toNat + 8)
  p1 : 1 ≤ p
  p2 : p ≤ 30
noncomputable def dxE (c p : Int) : Int := if 0 < -(p + 1) + (dg c : Int) - 1 then -(p + 1) + (dg c : Int) - 1 else 0
theorem dxE_facts {c p : Int} (h : DxPre c p) : 0 ≤ dxE c p ∧ dxE c p ≤ 7 ∧ (dg c : Int) ≤ dxE c p + p + 2 := by
  have d := dg_any_le (by lia) h.cb
  have := h.p1
  unfold dxE
  split <;> lia
theorem dxg {c p : Int} (h : DxPre c p) : 1 ≤ dg c ∧ dg c ≤ 60 := by
  have d := dg_any_le (by lia) h.cb
  have := h.p1
  have := h.p2
  exact ⟨(dg_any h.c0).2, by lia⟩
theorem bits_dxc {c p : Int} (h : DxPre c p) : Builtin.Int.intBits c ≤ 140 := by
  have := h.cb
  have := h.p2
  have : (10 : Int) ^ (p.toNat + 8) ≤ 10 ^ 40 := ten_le (by lia)
  exact bits40 (by lia) (by lia)
theorem tenQ_lo {q : Int} (h0 : 0 ≤ q) (h1 : q ≤ 46) : 2 * 10 ^ q.toNat ≤ tenQ q ∧ tenQ q ≤ 3 * 10 ^ q.toNat - 1 := by
  unfold tenQ
  have e : (10 : Int) ^ 46 = 10 ^ (46 - q.toNat) * 10 ^ q.toNat := by rw [← ten_add]; congr 1; lia
  have p := ten_pos (46 - q.toNat)
  have d1 : 2 * (10 : Int) ^ 46 ≤ tenD := by decide
  have d2 : tenD < 3 * (10 : Int) ^ 46 := by decide
  rw [e] at d1 d2
  generalize (10 : Int) ^ (46 - q.toNat) = A at *
  generalize (10 : Int) ^ q.toNat = B at *
  constructor
  · apply Int.le_ediv_of_mul_le p
    have : 2 * B * A = 2 * (A * B) := by grind
    lia
  · have : tenD / A < 3 * B := by
      apply Int.ediv_lt_of_lt_mul p
      have : 3 * B * A = 3 * (A * B) := by grind
      lia
    lia
theorem tenQ_dv {q : Int} (h0 : 0 ≤ q) (h1 : q ≤ 46) : tenQ q ≠ 0 ∧ (tenQ q).natAbs.log2 < 9000 := by
  have := tenQ_lo h0 h1
  have := ten_pos q.toNat
  exact ⟨by lia, (Sz.of_bits (bits_tenQ q) (by decide)).log⟩
noncomputable def dxS (c p : Int) : Int := c * 10 ^ (-(p + 1) + (p + 1 + 2 + dxE c p)).toNat
noncomputable def dxT (c p : Int) : Int := tenQ (p + 1 + 2 + dxE c p)
noncomputable def dxQ (c p : Int) : Int := (dxS c p).fdiv (dxT c p)
noncomputable def dxR (c p : Int) : Int := divN ((dxS c p).fmod (dxT c p)) (10 ^ (dxE c p).toNat)
noncomputable def dxV (c p : Int) : Int := divN (iexp (dxR c p) (10 ^ (p + 1 + 2).toNat)) 1000
noncomputable def DxR (c p v e : Int) : Prop := v = dxV c p ∧ e = dxQ c p - (p + 1 + 2) + 3
theorem dx_pre {c p : Int} (h : DxPre c p) : ExPre (dxR c p) (10 ^ (p + 1 + 2).toNat) := by
  have p1 := h.p1
  have p2 := h.p2
  have x := dxE_facts h
  have sc := scale_ten (k := p + 1 + 2) (by lia) (by lia)
  have m4 : (10 : Int) ^ 4 ≤ 10 ^ (p + 1 + 2).toNat := ten_le (by lia)
  have e4 : (10 : Int) ^ 4 = 10000 := by decide
  have t := tenQ_lo (q := p + 1 + 2 + dxE c p) (by lia) (by lia)
  have tp := ten_pos (p + 1 + 2 + dxE c p).toNat
  have eq : (10 : Int) ^ (p + 1 + 2 + dxE c p).toNat = 10 ^ (p + 1 + 2).toNat * 10 ^ (dxE c p).toNat := by rw [← ten_add]; congr 1; lia
  have xp := ten_pos (dxE c p).toNat
  have r0 := Int.fmod_nonneg_of_pos (dxS c p) (b := dxT c p) (by unfold dxT; lia)
  have r1 := Int.fmod_lt_of_pos (dxS c p) (b := dxT c p) (by unfold dxT; lia)
  refine ⟨sc, by lia, divN_nonneg r0 xp, ?_⟩
  unfold dxR
  have d := divN_facts (a := (dxS c p).fmod (dxT c p)) xp
  rw [show dxT c p = tenQ (p + 1 + 2 + dxE c p) from rfl] at *
  rw [eq] at t
  generalize divN ((dxS c p).fmod (tenQ (p + 1 + 2 + dxE c p))) (10 ^ (dxE c p).toNat) = z at *
  generalize (dxS c p).fmod (tenQ (p + 1 + 2 + dxE c p)) = r at *
  generalize tenQ (p + 1 + 2 + dxE c p) = T at *
  generalize (10 : Int) ^ (dxE c p).toNat = B at *
  generalize (10 : Int) ^ (p + 1 + 2).toNat = A at *
  rcases Int.lt_or_le (3 * A) z with y | y
  · exfalso
    have m := Int.mul_le_mul_of_nonneg_left (show 3 * A + 1 ≤ z by lia) (show 0 ≤ B by lia)
    have e : B * (3 * A + 1) = 3 * (A * B) + B := by grind
    lia
  · exact y
section
variable {prog : Program} {w : World} {A : Around} {E : Value → Shared → Prop} {s : Shared} {t u : Tok} {Q : Value → Shared → Prop} {h₀ : Heap} {L : Addr} {m : Str → Option Value} {news : List (Addr × Obj)}
theorem len_x {c p : Int} (h : DxPre c p) (q : ∀ D : Int, D = (dg c : Int) → 1 ≤ D → D ≤ 60 → Q (.int D (s.toks + 1)) { s with toks := s.toks + 1 + 1 }) :
    wpAny (model prog w) A (call (.builtin "len") [.str (Str.ofString (toString c)) t]) Q E s := by
  have d := dxg h
  unfold dg at d
  exact PyProof.Rows.SBL.len (by lia) (q _ rfl (by lia) (by lia))
theorem max_x {c p D : Int} (H : DxPre c p) (hD : D = (dg c : Int)) (hh : A.handled = none) (F : Fr h₀ L s.heap m) (N : News h₀ L s.heap news)
    (h : ∀ x : Int, x = dxE c p → 0 ≤ x → x ≤ 7 → ∀ t' h' tk, Fr h₀ L h' m → News h₀ L h' news → Q (.int x t') { s with heap := h', toks := tk }) :
    wpAny (model prog w) A (call (.builtin "max") [.int 0 t, .int (-(p + 1) + D - 1) u]) Q E s :=
  max_two_N hh F N fun h' tk F' N' => by
    have x := dxE_facts H
    have e : (if -(p + 1) + D - 1 > 0 then -(p + 1) + D - 1 else 0) = dxE c p := by subst hD; rfl
    rw [e]
    exact h _ rfl x.1 x.2.1 _ _ _ F' N'
end
theorem dx_ex {c p x : Int} (h : DxPre c p) (hx : x = dxE c p) : ExPre (divN ((c * 10 ^ (-(p + 1) + (p + 1 + 2 + x)).toNat).fmod (tenQ (p + 1 + 2 + x))) (10 ^ x.toNat)) (10 ^ (p + 1 + 2).toNat) := by
  subst hx; exact dx_pre h
theorem dx_end {c p x : Int} (hx : x = dxE c p) : DxR c p (divN (iexp (divN ((c * 10 ^ (-(p + 1) + (p + 1 + 2 + x)).toNat).fmod (tenQ (p + 1 + 2 + x))) (10 ^ x.toNat)) (10 ^ (p + 1 + 2).toNat)) 1000) ((c * 10 ^ (-(p + 1) + (p + 1 + 2 + x)).toNat).fdiv (tenQ (p + 1 + 2 + x)) - (p + 1 + 2) + 3) := by
  subst hx; exact ⟨rfl, rfl⟩
end Mine

end
section
open PySem PySem.W PyProof.Rows
namespace Mine
open Lg
structure DpPre (xc xe yc ye p : Int) : Prop where
  x1 : 1 ≤ xc
  x2 : xc < 10 ^ 31
  e1 : -30 ≤ xe
  e2 : xe ≤ 30
  ne : ¬ (xe ≤ 0 ∧ xc = 10 ^ (-xe).toNat)
  y0 : yc ≠ 0
  yb : (yc.natAbs : Int) ≤ 10 ^ (3 - max ye 0).toNat
  ye1 : -3 ≤ ye
  ye2 : ye ≤ 2
  p1 : 1 ≤ p
  p2 : p ≤ 30
theorem ab_facts (f : Int) : ab f = f.natAbs := by unfold ab; split <;> lia
theorem dpn_facts {xc xe yc ye p : Int} (h : DpPre xc xe yc ye p) : 1 ≤ dg (ab yc) ∧ (dg (ab yc) : Int) + max ye 0 ≤ 4 ∧ (yc.natAbs : Int) < 10 ^ dg (ab yc) ∧ (10 : Int) ^ (dg (ab yc) - 1) ≤ yc.natAbs := by
  have a := ab_facts yc
  have y0 := h.y0
  have e1 := h.ye1
  have e2 := h.ye2
  have l := dg_lt (M := ab yc) (by lia)
  have g := dg_ge (M := ab yc) (by lia)
  rw [a] at l g
  rw [a]
  refine ⟨dg_pos (by lia), ?_, l, g⟩
  have : dg (yc.natAbs : Int) ≤ (3 - max ye 0).toNat + 1 := dg_le (by lia) (by lia) (by
    have := h.yb
    have : (10 : Int) ^ (3 - max ye 0).toNat < 10 ^ ((3 - max ye 0).toNat + 1) := by
      have := ten_pos (3 - max ye 0).toNat
      rw [Int.pow_succ]; lia
    lia)
  lia
theorem bits_dpy {xc xe yc ye p : Int} (h : DpPre xc xe yc ye p) : Builtin.Int.intBits yc ≤ 20 := by
  have := h.yb
  have : (10 : Int) ^ (3 - max ye 0).toNat ≤ 10 ^ 3 := ten_le (by lia)
  rw [PySem.intBits_le_iff]
  have e : (2 : Nat) ^ 20 = 1048576 := by decide
  have e2 : (10 : Int) ^ 3 = 1000 := by decide
  lia
theorem str_dpy {xc xe yc ye p : Int} (h : DpPre xc xe yc ye p) : (if yc < 0 then -yc else yc).natAbs.log2 < 1920 := by
  have b := bits_dpy h
  refine str_small (m := 20) ?_ (by decide)
  rw [PySem.intBits_le_iff] at *
  split <;> lia
theorem bits_dpx {xc xe yc ye p : Int} (h : DpPre xc xe yc ye p) : Builtin.Int.intBits xc ≤ 140 := by
  have := h.x1
  have := h.x2
  have : (10 : Int) ^ 31 ≤ 10 ^ 40 := ten_le (by decide)
  have := ten_pos 40
  exact bits40 (by lia) (by lia)
theorem dp_dl {xc xe yc ye p D : Int} (h : DpPre xc xe yc ye p) (h1 : 1 ≤ D) (h2 : D + ye ≤ 4) : DlPre xc xe (p + (D + ye) + 1) := by
  have := h.ye1
  have := h.p1
  have := h.p2
  exact ⟨h.x1, h.x2, h.e1, h.e2, by lia, by lia⟩
/-- how large _dlog's answer may be -/
theorem dlog_abs {c e p : Int} (h : DlPre c e p) : ((dlog c e p).natAbs : Int) ≤ 2 * 10 ^ (p + 2).toNat := by
  have il := ilog_abs (dl_pre h)
  have f := dlF_facts h
  have x := dlX_facts f.1 f.2.1
  have p1 := h.p1
  have p2 := h.p2
  have hM : (10 : Int) ^ 2 ≤ 10 ^ (p + 2).toNat := ten_le (by lia)
  have e2 : (10 : Int) ^ 2 = 100 := by decide
  have t : ((dlT (dlF c e) (p + 2)).natAbs : Int) ≤ 183 * 10 ^ (p + 2).toNat := by
    unfold dlT
    split
    · have := ten_pos (p + 2).toNat; lia
    · have q := tenQ_lo (q := p + 2 + dlX (dlF c e)) (by lia) (by lia)
      have xp := ten_pos (dlX (dlF c e)).toNat
      have d := divN_facts (a := dlF c e * tenQ (p + 2 + dlX (dlF c e))) xp
      have eq : (10 : Int) ^ (p + 2 + dlX (dlF c e)).toNat = 10 ^ (p + 2).toNat * 10 ^ (dlX (dlF c e)).toNat := by rw [← ten_add]; congr 1; lia
      rw [eq] at q
      have f1 := f.1
      have f2 := f.2.1
      generalize dlF c e = F at *
      generalize divN (F * tenQ (p + 2 + dlX F)) (10 ^ (dlX F).toNat) = z at *
      generalize tenQ (p + 2 + dlX F) = T at *
      generalize (10 : Int) ^ (dlX F).toNat = B at *
      generalize (10 : Int) ^ (p + 2).toNat = A at *
      have t0 : 0 ≤ T := by have := Int.mul_pos (show 0 < A by lia) xp; lia
      have u1 := Int.mul_le_mul_of_nonneg_right f2 t0
      have u2 := Int.mul_le_mul_of_nonneg_right (show -60 ≤ F by lia) t0
      have e5 : B * (183 * A) = 183 * (A * B) := by grind
      have ab := Int.mul_le_mul_of_nonneg_right (show 100 ≤ A by lia) (show 0 ≤ B by lia)
      have z1 : z ≤ 183 * A := by
        rcases Int.lt_or_le (183 * A) z with y | y
        · exfalso
          have m := Int.mul_le_mul_of_nonneg_left (show 183 * A + 1 ≤ z by lia) (show 0 ≤ B by lia)
          rw [Int.mul_add] at m
          lia
        · exact y
      have z2 : -(183 * A) ≤ z := by
        rcases Int.lt_or_le z (-(183 * A)) with y | y
        · exfalso
          have m := Int.mul_le_mul_of_nonneg_left (show z ≤ -(183 * A) - 1 by lia) (show 0 ≤ B by lia)
          rw [Int.mul_sub, Int.mul_neg] at m
          lia
        · exact y
      lia
  unfold dlog
  have d := divN_facts (a := dlT (dlF c e) (p + 2) + ilog (dlC c e (p + 2)) (10 ^ (p + 2).toNat)) (b := 100) (by decide)
  lia
theorem bits_dlog {xc xe yc ye p D : Int} (h : DpPre xc xe yc ye p) (h1 : 1 ≤ D) (h2 : D + ye ≤ 4) : Builtin.Int.intBits (dlog xc xe (p + (D + ye) + 1)) ≤ 140 := by
  have g := dp_dl h h1 h2
  have a := dlog_abs g
  have := g.p2
  have t : (10 : Int) ^ (p + (D + ye) + 1 + 2).toNat ≤ 10 ^ 37 := ten_le (by lia)
  have e1 : (10 : Int) ^ 37 = 10000000000000000000000000000000000000 := by decide
  have e2 : (10 : Int) ^ 40 = 10000000000000000000000000000000000000000 := by decide
  exact bits40 (by lia) (by lia)
/-- _dpower's pc -/
noncomputable def dpC (xc xe yc ye p : Int) : Int := divN (dlog xc xe (p + ((dg (ab yc) : Int) + ye) + 1) * yc) (10 ^ dg (ab yc))
theorem dp_C {xc xe yc ye p D : Int} (hD : D = (dg (ab yc) : Int)) : divN (dlog xc xe (p + (D + ye) + 1) * yc) (10 ^ (-(ye - (D + ye))).toNat) = dpC xc xe yc ye p := by
  subst hD
  unfold dpC
  have e : (-(ye - ((dg (ab yc) : Int) + ye))).toNat = dg (ab yc) := by lia
  rw [e]
theorem dpC_abs {xc xe yc ye p : Int} (h : DpPre xc xe yc ye p) : ((dpC xc xe yc ye p).natAbs : Int) ≤ 2 * 10 ^ (p + ((dg (ab yc) : Int) + ye) + 1 + 2).toNat + 1 := by
  have n := dpn_facts h
  have a := dlog_abs (dp_dl h (D := (dg (ab yc) : Int)) (by lia) (by lia))
  have bp := ten_pos (dg (ab yc))
  unfold dpC
  have d := divN_facts (a := dlog xc xe (p + ((dg (ab yc) : Int) + ye) + 1) * yc) bp
  generalize dlog xc xe (p + ((dg (ab yc) : Int) + ye) + 1) = l at *
  generalize divN (l * yc) (10 ^ dg (ab yc)) = z at *
  have nl := n.2.2.1
  generalize (10 : Int) ^ dg (ab yc) = B at *
  generalize (10 : Int) ^ (p + ((dg (ab yc) : Int) + ye) + 1 + 2).toNat = A at *
  have m : (l.natAbs : Int) * yc.natAbs ≤ 2 * A * B := Int.mul_le_mul a (by lia) (by lia) (by lia)
  have e : ((l * yc).natAbs : Int) = (l.natAbs : Int) * yc.natAbs := by rw [Int.natAbs_mul]; push_cast; rfl
  rw [← e] at m
  generalize l * yc = w at *
  have e5 : B * (2 * A) = 2 * A * B := by grind
  have z1 : z ≤ 2 * A + 1 := by
    rcases Int.lt_or_le (2 * A + 1) z with y | y
    · exfalso
      have m := Int.mul_le_mul_of_nonneg_left (show 2 * A + 2 ≤ z by lia) (show 0 ≤ B by lia)
      rw [Int.mul_add] at m
      lia
    · exact y
  have z2 : -(2 * A + 1) ≤ z := by
    rcases Int.lt_or_le z (-(2 * A + 1)) with y | y
    · exfalso
      have m := Int.mul_le_mul_of_nonneg_left (show z ≤ -(2 * A) - 2 by lia) (show 0 ≤ B by lia)
      rw [Int.mul_sub, Int.mul_neg] at m
      lia
    · exact y
  lia
theorem dp_dx {xc xe yc ye p : Int} (h : DpPre xc xe yc ye p) (h0 : dpC xc xe yc ye p ≠ 0) : DxPre (dpC xc xe yc ye p) p := by
  have a := dpC_abs h
  have n := dpn_facts h
  have := h.p1
  have := h.p2
  have := h.ye1
  refine ⟨h0, ?_, h.p1, h.p2⟩
  have t : (10 : Int) ^ (p + ((dg (ab yc) : Int) + ye) + 1 + 2).toNat ≤ 10 ^ (p.toNat + 7) := ten_le (by lia)
  have e : (10 : Int) ^ (p.toNat + 8) = 10 ^ (p.toNat + 7) * 10 := Int.pow_succ _ _
  have := ten_pos (p.toNat + 7)
  lia
/-- what _dpower gives back -/
noncomputable def DpR (xc xe yc ye p c e : Int) : Prop :=
  (dpC xc xe yc ye p = 0 ∧ (1 ≤ (dg xc : Int) + xe ↔ 0 < yc) ∧ c = 10 ^ (p - 1).toNat + 1 ∧ e = 1 - p) ∨
  (dpC xc xe yc ye p = 0 ∧ ¬ (1 ≤ (dg xc : Int) + xe ↔ 0 < yc) ∧ c = 10 ^ p.toNat - 1 ∧ e = -p) ∨
  (dpC xc xe yc ye p ≠ 0 ∧ c = divN (dxV (dpC xc xe yc ye p) p) 10 ∧ e = dxQ (dpC xc xe yc ye p) p - (p + 1 + 2) + 3 + 1)
section
variable {prog : Program} {w : World} {A : Around} {E : Value → Shared → Prop} {s : Shared} {t u : Tok} {Q : Value → Shared → Prop}
theorem len_y {xc xe yc ye p : Int} (h : DpPre xc xe yc ye p) (q : ∀ D : Int, D = (dg (ab yc) : Int) → 1 ≤ D → D ≤ 4 → D + ye ≤ 4 → Q (.int D (s.toks + 1)) { s with toks := s.toks + 1 + 1 }) :
    wpAny (model prog w) A (call (.builtin "len") [.str (Str.ofString (toString (if yc < 0 then -yc else yc))) t]) Q E s := by
  have d := dpn_facts h
  have e : (((Str.ofString (toString (if yc < 0 then -yc else yc))).length : Nat) : Int) = (dg (ab yc) : Int) := rfl
  exact PyProof.Rows.SBL.len (by lia) (q _ e (by lia) (by lia) (by lia))
theorem len_xc {xc xe yc ye p : Int} (h : DpPre xc xe yc ye p) (q : ∀ D : Int, D = (dg xc : Int) → 1 ≤ D → D ≤ 31 → Q (.int D (s.toks + 1)) { s with toks := s.toks + 1 + 1 }) :
    wpAny (model prog w) A (call (.builtin "len") [.str (Str.ofString (toString xc)) t]) Q E s := by
  have d : 1 ≤ dg xc ∧ dg xc ≤ 31 := ⟨dg_pos (by have := h.x1; lia), dg_le (by have := h.x1; lia) (by decide) h.x2⟩
  have e : (((Str.ofString (toString xc)).length : Nat) : Int) = (dg xc : Int) := rfl
  exact PyProof.Rows.SBL.len (by lia) (q _ e (by lia) (by lia))
end
theorem dp_dx' {xc xe yc ye p D : Int} (h : DpPre xc xe yc ye p) (hD : D = (dg (ab yc) : Int)) (h0 : ¬ divN (dlog xc xe (p + (D + ye) + 1) * yc) (10 ^ (-(ye - (D + ye))).toNat) = 0) : DxPre (divN (dlog xc xe (p + (D + ye) + 1) * yc) (10 ^ (-(ye - (D + ye))).toNat)) p := by
  rw [dp_C hD] at *
  exact dp_dx h h0
theorem dp_r1 {xc xe yc ye p D G : Int} (hD : D = (dg (ab yc) : Int)) (h0 : divN (dlog xc xe (p + (D + ye) + 1) * yc) (10 ^ (-(ye - (D + ye))).toNat) = 0) (hG : G = (dg xc : Int)) (hs' : (decide (1 ≤ G + xe) == decide (0 < yc)) = true) : DpR xc xe yc ye p (10 ^ (p - 1).toNat + 1) (1 - p) := by
  rw [dp_C hD] at h0
  subst hG
  have hs : (1 ≤ (dg xc : Int) + xe ↔ 0 < yc) := decide_eq_decide.mp (beq_iff_eq.mp hs')
  exact Or.inl ⟨h0, hs, rfl, rfl⟩
theorem dp_r2 {xc xe yc ye p D G : Int} (hD : D = (dg (ab yc) : Int)) (h0 : divN (dlog xc xe (p + (D + ye) + 1) * yc) (10 ^ (-(ye - (D + ye))).toNat) = 0) (hG : G = (dg xc : Int)) (hs' : (decide (1 ≤ G + xe) == decide (0 < yc)) = false) : DpR xc xe yc ye p (10 ^ p.toNat - 1) (-p) := by
  rw [dp_C hD] at h0
  subst hG
  have hs : ¬ (1 ≤ (dg xc : Int) + xe ↔ 0 < yc) := fun g => by
    rw [decide_eq_decide.mpr g, beq_self_eq_true] at hs'
    cases hs'
  exact Or.inr (Or.inl ⟨h0, hs, rfl, rfl⟩)
theorem dp_r3 {xc xe yc ye p D v e : Int} (hD : D = (dg (ab yc) : Int)) (h0 : ¬ divN (dlog xc xe (p + (D + ye) + 1) * yc) (10 ^ (-(ye - (D + ye))).toNat) = 0) (hr : DxR (divN (dlog xc xe (p + (D + ye) + 1) * yc) (10 ^ (-(ye - (D + ye))).toNat)) p v e) : DpR xc xe yc ye p (divN v 10) (e + 1) := by
  rw [dp_C hD] at *
  obtain ⟨e1, e2⟩ := hr
  subst e1 e2
  exact Or.inr (Or.inr ⟨h0, rfl, rfl⟩)
end Mine

end
/- law 08: _dlog's answer in rationals -/
namespace Mine
open Lg
theorem z10 (n : Int) : (0 : Rat) < 10 ^ n := Rat.zpow_pos (by decide)
theorem z10_add (a b : Int) : (10 : Rat) ^ (a + b) = 10 ^ a * 10 ^ b := Rat.zpow_add (by decide) a b
theorem z10_neg (a : Int) : (10 : Rat) ^ (-a) * 10 ^ a = 1 := by
  rw [← z10_add]
  have : -a + a = 0 := by lia
  rw [this]; exact Rat.zpow_zero _
theorem c10 (k : Nat) : (((10 : Int) ^ k : Int) : Rat) = 10 ^ k := by
  induction k with
  | zero => rfl
  | succ n ih => rw [Int.pow_succ, Rat.intCast_mul, ih, Rat.pow_succ]; rfl
theorem z10_nat {n : Int} (h : 0 ≤ n) : (((10 : Int) ^ n.toNat : Int) : Rat) = (10 : Rat) ^ n := by
  obtain ⟨m, rfl⟩ : ∃ m : Nat, n = m := ⟨n.toNat, by lia⟩
  rw [c10, Rat.zpow_natCast, Int.toNat_natCast]
/-- a whole power -/
theorem zpow_log {X s d : Rat} (hX : 0 < X) (h1 : LO (s - d) X) (h2 : UP (s + d) X) (n : Int) : LO ((n : Rat) * s - (n.natAbs : Rat) * d) (X ^ n) ∧ UP ((n : Rat) * s + (n.natAbs : Rat) * d) (X ^ n) := by
  rcases Int.lt_or_le n 0 with x | x
  · obtain ⟨m, rfl⟩ : ∃ m : Nat, n = -(m : Int) := ⟨(-n).toNat, by lia⟩
    have e : (X ^ (-(m : Int)) : Rat) = 1 / X ^ m := by rw [Rat.zpow_neg, Rat.zpow_natCast]; grind
    have ea : (-(m : Int)).natAbs = m := by lia
    have ec : (((-(m : Int)) : Int) : Rat) = -(m : Rat) := by push_cast; rfl
    rw [e, ea, ec]
    have p := pow_pos hX m
    constructor
    · refine ((h2.pow hX m).inv p).mono ?_ Rat.le_refl
      grind
    · refine ((h1.pow hX m).inv p).mono ?_ Rat.le_refl
      grind
  · obtain ⟨m, rfl⟩ : ∃ m : Nat, n = (m : Int) := ⟨n.toNat, by lia⟩
    have ea : ((m : Int)).natAbs = m := by lia
    have ec : (((m : Int)) : Rat) = (m : Rat) := by norm_cast
    rw [Rat.zpow_natCast, ea, ec]
    constructor
    · refine (h1.pow hX m).mono ?_ Rat.le_refl
      grind
    · refine (h2.pow hX m).mono ?_ Rat.le_refl
      grind
theorem tenQ_log {q : Int} (h0 : 0 ≤ q) (h1 : q ≤ 46) : LO ((tenQ q : Rat) * (1 / 10 ^ q)) 10 ∧ UP (((tenQ q : Rat) + 1) * (1 / 10 ^ q)) 10 := by
  have t := ten_bounds
  have e : (10 : Int) ^ 46 = 10 ^ (46 - q.toNat) * 10 ^ q.toNat := by rw [← ten_add]; congr 1; lia
  have a := ten_pos (46 - q.toNat)
  have b := ten_pos q.toNat
  have f1 := Int.mul_ediv_add_emod tenD (10 ^ (46 - q.toNat))
  have f2 := Int.emod_nonneg tenD (show (10 : Int) ^ (46 - q.toNat) ≠ 0 by lia)
  have f3 := Int.emod_lt_of_pos tenD a
  have er : (10 : Rat) ^ 46 = (((10 : Int) ^ 46 : Int) : Rat) := (c10 46).symm
  have eq : (((10 : Int) ^ q.toNat : Int) : Rat) = (10 : Rat) ^ q := z10_nat h0
  rw [er, e] at t
  rw [← eq]
  unfold tenQ
  generalize tenD / 10 ^ (46 - q.toNat) = T at *
  generalize tenD % 10 ^ (46 - q.toNat) = r at *
  generalize tenD = D at *
  generalize (10 : Int) ^ (46 - q.toNat) = A at *
  generalize (10 : Int) ^ q.toNat = B at *
  have ar := clt a
  have br := clt b
  have g1 := cle (show A * T ≤ D by lia)
  have g2 := cle (show D + 1 ≤ A * (T + 1) by rw [Int.mul_add]; lia)
  push_cast at *
  have bi := inv_pos br
  have ai := inv_pos ar
  have eAB : (1 : Rat) / (A * B) = (1 / A) * (1 / B) := by grind
  have pos := Rat.mul_pos ai bi
  have u : (A : Rat) * (1 / A) = 1 := by grind
  constructor
  · refine t.1.mono ?_ Rat.le_refl
    have d : (D : Rat) / (A * B) = D * (1 / (A * B)) := by grind
    rw [d, eAB]
    have m := Rat.mul_le_mul_of_nonneg_right g1 (show (0 : Rat) ≤ 1 / A * (1 / B) by grind)
    have : (A : Rat) * T * (1 / A * (1 / B)) = T * (1 / B) * (A * (1 / A)) := by grind
    rw [this, u] at m
    grind
  · refine t.2.mono ?_ Rat.le_refl
    have d : ((D : Rat) + 1) / (A * B) = (D + 1) * (1 / (A * B)) := by grind
    rw [d, eAB]
    have m := Rat.mul_le_mul_of_nonneg_right g2 (show (0 : Rat) ≤ 1 / A * (1 / B) by grind)
    have : (A : Rat) * (T + 1) * (1 / A * (1 / B)) = (T + 1) * (1 / B) * (A * (1 / A)) := by grind
    rw [this, u] at m
    grind
theorem ten_log {q : Int} (h0 : 0 ≤ q) (h1 : q ≤ 46) (n : Int) : LO (((n : Rat) * tenQ q - (n.natAbs : Rat)) * (1 / 10 ^ q)) (10 ^ n) ∧ UP (((n : Rat) * tenQ q + (n.natAbs : Rat)) * (1 / 10 ^ q)) (10 ^ n) := by
  have t := tenQ_log h0 h1
  have b := inv_pos (z10 q)
  have z := zpow_log (X := 10) (s := ((tenQ q : Rat) + 1 / 2) * (1 / 10 ^ q)) (d := 1 / 2 * (1 / 10 ^ q)) (by decide) (t.1.mono (by grind) Rat.le_refl) (t.2.mono (by grind) Rat.le_refl) n
  have n1 : (n : Rat) ≤ (n.natAbs : Rat) := by
    have := cle (show n ≤ (n.natAbs : Int) by lia)
    push_cast at this
    exact_mod_cast this
  have n2 : -(n.natAbs : Rat) ≤ (n : Rat) := by
    have := cle (show -(n.natAbs : Int) ≤ n by lia)
    push_cast at this
    exact_mod_cast this
  have m1 := Rat.mul_le_mul_of_nonneg_right n1 (show (0 : Rat) ≤ 1 / 10 ^ q by grind)
  have m2 := Rat.mul_le_mul_of_nonneg_right n2 (show (0 : Rat) ≤ 1 / 10 ^ q by grind)
  generalize (n.natAbs : Rat) = N at *
  generalize (1 : Rat) / 10 ^ q = B at *
  exact ⟨z.1.mono (by grind) Rat.le_refl, z.2.mono (by grind) Rat.le_refl⟩
end Mine

namespace Mine
open Lg
/-- the number handed to _ilog lies within a half of the scale's part -/
theorem dlC_near {c e p : Int} (h : DlPre c e p) : Ab ((dlC c e (p + 2) : Rat) - (c : Rat) * 10 ^ (e + (p + 2) - dlF c e)) (1 / 2) := by
  unfold dlC
  split
  · rename_i hk
    rw [Rat.intCast_mul, z10_nat hk]
    constructor <;> grind
  · rename_i hk
    have d := divN_r (a := c) (b := 10 ^ (-(e + (p + 2) - dlF c e)).toNat) (ten_pos _)
    rw [z10_nat (n := -(e + (p + 2) - dlF c e)) (by lia)] at d
    have z := z10_neg (e + (p + 2) - dlF c e)
    have p1 := z10 (e + (p + 2) - dlF c e)
    have p2 := z10 (-(e + (p + 2) - dlF c e))
    generalize (10 : Rat) ^ (e + (p + 2) - dlF c e) = A at *
    generalize (10 : Rat) ^ (-(e + (p + 2) - dlF c e)) = B at *
    have e1 : (c : Rat) / B = c * A := by grind
    rw [e1] at d
    exact d
/-- x without its power of ten: what _ilog tells of it -/
theorem dl_v {c e p : Int} (h : DlPre c e p) : LO (((ilog (dlC c e (p + 2)) (10 ^ (p + 2).toNat) : Rat) - 273 / 10) * (1 / 10 ^ (p + 2))) ((c : Rat) * 10 ^ (e - dlF c e)) ∧ UP (((ilog (dlC c e (p + 2)) (10 ^ (p + 2).toNat) : Rat) + 27) * (1 / 10 ^ (p + 2))) ((c : Rat) * 10 ^ (e - dlF c e)) := by
  have P := dl_pre h
  have g := (ilog_good P).1
  have nr := dlC_near h
  have hp := h.p1
  have eM := z10_nat (n := p + 2) (by lia)
  have hM : (10 : Int) ^ 2 ≤ 10 ^ (p + 2).toNat := ten_le (by lia)
  have hf : (if 10 ^ (p + 2).toNat ≤ dlC c e (p + 2) then (15 : Rat) else 22) ≤ 22 := by split <;> grind
  have lo := cle P.lo
  have h100 := cle hM
  generalize (if 10 ^ (p + 2).toNat ≤ dlC c e (p + 2) then (15 : Rat) else 22) = far at *
  unfold Good at g
  generalize ilog (dlC c e (p + 2)) (10 ^ (p + 2).toNat) = il at *
  generalize dlC c e (p + 2) = C at *
  have ez : (10 : Rat) ^ (e + (p + 2) - dlF c e) = 10 ^ (e - dlF c e) * 10 ^ (p + 2) := by rw [← z10_add]; congr 1; lia
  rw [ez] at nr
  have e10 : (((10 : Int) ^ 2 : Int) : Rat) = 100 := by decide
  rw [e10] at h100
  push_cast at lo
  rw [← c10] at *
  rw [eM] at *
  have mp := z10 (p + 2)
  generalize hMr : (10 : Rat) ^ (p + 2) = M at *
  have hc : (c : Rat) * 10 ^ (e - dlF c e) = (c : Rat) * 10 ^ (e - dlF c e) := rfl
  generalize hv : (c : Rat) * 10 ^ (e - dlF c e) = v at *
  have e2 : (c : Rat) * (10 ^ (e - dlF c e) * M) = v * M := by rw [← hv]; grind
  rw [e2] at nr
  have cp : (0 : Rat) < C := by grind
  have ci := inv_pos cp
  have mi := inv_pos mp
  obtain ⟨n1, n2⟩ := nr
  -- u
  have cb : 1 / (C : Rat) ≤ 10 * (1 / M) := by
    refine le_of_mul cp ?_
    have : (C : Rat) * (1 / C) = 1 := by grind
    rw [this]
    have m := Rat.mul_le_mul_of_nonneg_right lo (show (0 : Rat) ≤ 1 / M by grind)
    have : M * (1 / M) = 1 := by grind
    rw [this] at m
    grind
  have m100 : 1 / M ≤ 1 / 100 := inv_le (by grind) h100
  generalize hu : (v * M - C) * (1 / C) = u
  have u1 : u ≤ 5 * (1 / M) := by
    have m := Rat.mul_le_mul_of_nonneg_right (show v * M - C ≤ 1 / 2 by grind) (show (0 : Rat) ≤ 1 / C by grind)
    rw [hu] at m
    grind
  have u2 : -(5 * (1 / M)) ≤ u := by
    have m := Rat.mul_le_mul_of_nonneg_right (show -(1 / 2) ≤ v * M - C by grind) (show (0 : Rat) ≤ 1 / C by grind)
    rw [hu] at m
    grind
  have ev : (C : Rat) / M * (1 + u) = v := by
    have : (C : Rat) * (1 / C) = 1 := by grind
    have x : (C : Rat) * (1 + u) = v * M := by rw [← hu]; grind
    have y : (C : Rat) / M * (1 + u) = (C * (1 + u)) * (1 / M) := by grind
    rw [y, x]
    grind
  have u3 : 0 < 1 + u := by grind
  have b1 := LO.base (t := u) (by grind)
  have b2 := UP.base (t := u)
  have q : -(53 / 10 * (1 / M)) ≤ u / (1 + u) := by
    refine le_of_mul u3 ?_
    have : (1 + u) * (u / (1 + u)) = u := by grind
    rw [this]
    have m := Rat.mul_le_mul_of_nonneg_right (show -(1 / 20) ≤ u by grind) (show (0 : Rat) ≤ 53 / 10 * (1 / M) by grind)
    grind
  have l := g.1.mul b1 u3
  have up := g.2.mul b2 (show 0 < (C : Rat) / M by have := Rat.mul_pos cp mi; grind)
  rw [ev] at l up
  have f2 := Rat.mul_le_mul_of_nonneg_right hf (show (0 : Rat) ≤ 1 / M by grind)
  exact ⟨l.mono (by grind) Rat.le_refl, up.mono (by grind) Rat.le_refl⟩
end Mine

namespace Mine
open Lg
theorem ab_lt (f : Int) : ((f.natAbs : Nat) : Rat) ≤ 10 * 10 ^ (dlX f) := by
  have a := ab_facts f
  have l := dg_lt (M := ab f) (by lia)
  have g := dg_pos (M := ab f) (by lia)
  have x : (dlX f).toNat + 1 = dg (ab f) := by unfold dlX; lia
  have x0 : 0 ≤ dlX f := by unfold dlX; lia
  rw [← x, a, Int.pow_succ] at l
  have := cle (Int.le_of_lt l)
  rw [Rat.intCast_mul, z10_nat x0] at this
  push_cast at this
  have e : (((f.natAbs : Nat) : Int) : Rat) = ((f.natAbs : Nat) : Rat) := by norm_cast
  push_cast at e
  grind
/-- the part of log 10 -/
theorem dlT_log {f P : Int} (h0 : 0 ≤ P) (h1 : P ≤ 40) (f1 : -30 ≤ f) (f2 : f ≤ 60) : LO (((dlT f P : Rat) - 21 / 2) * (1 / 10 ^ P)) (10 ^ f) ∧ UP (((dlT f P : Rat) + 21 / 2) * (1 / 10 ^ P)) (10 ^ f) := by
  have mi := inv_pos (z10 P)
  unfold dlT
  split
  · rename_i hf
    subst hf
    have e : (((0 : Int)) : Rat) = 0 := rfl
    rw [e, Rat.zpow_zero]
    exact ⟨LO.one.mono (by grind) Rat.le_refl, UP.one.mono (by grind) Rat.le_refl⟩
  · have x := dlX_facts f1 f2
    have t := ten_log (q := P + dlX f) (by lia) (by lia) f
    have b := ab_lt f
    have d := divN_r (a := f * tenQ (P + dlX f)) (b := 10 ^ (dlX f).toNat) (ten_pos _)
    rw [z10_nat x.1, Rat.intCast_mul] at d
    rw [z10_add] at t
    have bp := z10 (dlX f)
    have mp := z10 P
    generalize ((f.natAbs : Nat) : Rat) = N at *
    generalize divN (f * tenQ (P + dlX f)) (10 ^ (dlX f).toNat) = F at *
    generalize (f : Rat) * (tenQ (P + dlX f) : Rat) = K at *
    generalize (10 : Rat) ^ dlX f = B at *
    generalize (10 : Rat) ^ P = M at *
    have bi := inv_pos bp
    have e1 : (1 : Rat) / (M * B) = (1 / B) * (1 / M) := by grind
    have ub : B * (1 / B) = 1 := by grind
    rw [e1] at t
    obtain ⟨d1, d2⟩ := d
    have kb : K / B = K * (1 / B) := by grind
    rw [kb] at d1 d2
    have nb := Rat.mul_le_mul_of_nonneg_right b (show (0 : Rat) ≤ 1 / B by grind)
    have nb2 : 10 * B * (1 / B) = 10 := by grind
    rw [nb2] at nb
    have a1 := Rat.mul_le_mul_of_nonneg_right (show (F : Rat) - 21 / 2 ≤ K * (1 / B) - N * (1 / B) by grind) (show (0 : Rat) ≤ 1 / M by grind)
    have a2 := Rat.mul_le_mul_of_nonneg_right (show K * (1 / B) + N * (1 / B) ≤ (F : Rat) + 21 / 2 by grind) (show (0 : Rat) ≤ 1 / M by grind)
    refine ⟨t.1.mono ?_ Rat.le_refl, t.2.mono ?_ Rat.le_refl⟩
    · have : (K - N) * (1 / B * (1 / M)) = (K * (1 / B) - N * (1 / B)) * (1 / M) := by grind
      rw [this]; exact a1
    · have : (K + N) * (1 / B * (1 / M)) = (K * (1 / B) + N * (1 / B)) * (1 / M) := by grind
      rw [this]; exact a2
/-- what _dlog promises -/
theorem dlog_good {c e p : Int} (h : DlPre c e p) : LO (((dlog c e p : Rat) - 88 / 100) * (1 / 10 ^ p)) ((c : Rat) * 10 ^ e) ∧ UP (((dlog c e p : Rat) + 88 / 100) * (1 / 10 ^ p)) ((c : Rat) * 10 ^ e) := by
  have v := dl_v h
  have f := dlF_facts h
  have p1 := h.p1
  have p2 := h.p2
  have t := dlT_log (f := dlF c e) (P := p + 2) (by lia) (by lia) f.1 f.2.1
  have cp := clt (show 0 < c by have := h.c1; lia)
  have vp : (0 : Rat) < (c : Rat) * 10 ^ (e - dlF c e) := Rat.mul_pos (by push_cast at cp; exact cp) (z10 _)
  have ex : (c : Rat) * 10 ^ (e - dlF c e) * 10 ^ dlF c e = (c : Rat) * 10 ^ e := by
    rw [Rat.mul_assoc, ← z10_add]
    congr 2
    lia
  have l := v.1.mul t.1 (z10 _)
  have u := v.2.mul t.2 vp
  rw [ex] at l u
  unfold dlog
  have d := divN_r (a := dlT (dlF c e) (p + 2) + ilog (dlC c e (p + 2)) (10 ^ (p + 2).toNat)) (b := 100) (by decide)
  push_cast at d
  generalize dlT (dlF c e) (p + 2) = F at *
  generalize ilog (dlC c e (p + 2)) (10 ^ (p + 2).toNat) = il at *
  generalize divN (F + il) 100 = z at *
  have eM : (10 : Rat) ^ (p + 2) = 10 ^ p * 100 := by rw [z10_add]; congr 1
  rw [eM] at l u
  have bp := z10 p
  have bi := inv_pos bp
  have e1 : (1 : Rat) / (10 ^ p * 100) = 1 / 100 * (1 / 10 ^ p) := by grind
  rw [e1] at l u
  obtain ⟨d1, d2⟩ := d
  generalize (1 : Rat) / 10 ^ p = b at *
  have a1 := Rat.mul_le_mul_of_nonneg_right (show (z : Rat) - 88 / 100 ≤ ((il : Rat) - 273 / 10 + (F - 21 / 2)) * (1 / 100) by grind) (show (0 : Rat) ≤ b by grind)
  have a2 := Rat.mul_le_mul_of_nonneg_right (show ((il : Rat) + 27 + (F + 21 / 2)) * (1 / 100) ≤ (z : Rat) + 88 / 100 by grind) (show (0 : Rat) ≤ b by grind)
  exact ⟨l.mono (by grind) Rat.le_refl, u.mono (by grind) Rat.le_refl⟩
end Mine

namespace Mine
open Lg
noncomputable def dpN (yc ye : Int) : Int := yc * 10 ^ (max ye 0).toNat
/-- x ** y, raised by y's denominator: between which bounds its logarithm lies -/
theorem power_good {xc xe yc ye p : Int} (h : DpPre xc xe yc ye p) :
    LO (((dpC xc xe yc ye p : Rat) - 138 / 100) * (1 / 10 ^ (p + 1)) * 10 ^ (max (-ye) 0)) (((xc : Rat) * 10 ^ xe) ^ dpN yc ye) ∧ UP (((dpC xc xe yc ye p : Rat) + 138 / 100) * (1 / 10 ^ (p + 1)) * 10 ^ (max (-ye) 0)) (((xc : Rat) * 10 ^ xe) ^ dpN yc ye) := by
  have n := dpn_facts h
  have hl := dp_dl h (D := (dg (ab yc) : Int)) (by lia) (by lia)
  have g := dlog_good hl
  have xp : (0 : Rat) < (xc : Rat) * 10 ^ xe := Rat.mul_pos (by have := clt (show 0 < xc by have := h.x1; lia); push_cast at this; exact this) (z10 _)
  have d := divN_r (a := dlog xc xe (p + ((dg (ab yc) : Int) + ye) + 1) * yc) (b := 10 ^ dg (ab yc)) (ten_pos _)
  have ep : (10 : Rat) ^ (p + ((dg (ab yc) : Int) + ye) + 1) = 10 ^ (p + 1) * 10 ^ (dg (ab yc) : Int) * 10 ^ ye := by rw [← z10_add, ← z10_add]; congr 1; lia
  have em : (10 : Rat) ^ (max (-ye) 0) * 10 ^ ye = 10 ^ (max ye 0) := by rw [← z10_add]; congr 1; lia
  have en : (((10 : Int) ^ dg (ab yc) : Int) : Rat) = 10 ^ (dg (ab yc) : Int) := by rw [c10, Rat.zpow_natCast]
  have eN : ((dpN yc ye : Int) : Rat) = (yc : Rat) * 10 ^ (max ye 0) := by unfold dpN; rw [Rat.intCast_mul, z10_nat (by lia)]
  have tp := z10 (max ye 0)
  have eA : (((dpN yc ye).natAbs : Nat) : Rat) = (yc.natAbs : Rat) * 10 ^ (max ye 0) := by
    have e1 : (((dpN yc ye).natAbs : Nat) : Int) = (yc.natAbs : Int) * 10 ^ (max ye 0).toNat := by
      unfold dpN
      rw [Int.natAbs_mul]
      push_cast
      have := ten_pos (max ye 0).toNat
      congr 1
    have e2 : (((((dpN yc ye).natAbs : Nat) : Int)) : Rat) = (((yc.natAbs : Int) * 10 ^ (max ye 0).toNat : Int) : Rat) := by rw [e1]
    rw [Rat.intCast_mul, z10_nat (by lia)] at e2
    exact_mod_cast e2
  have yl := cle (Int.le_of_lt n.2.2.1)
  rw [en] at yl d
  have yl' : (yc.natAbs : Rat) ≤ 10 ^ (dg (ab yc) : Int) := by exact_mod_cast yl
  unfold dpC
  rw [Rat.intCast_mul] at d
  generalize dlog xc xe (p + ((dg (ab yc) : Int) + ye) + 1) = l at *
  generalize divN (l * yc) (10 ^ dg (ab yc)) = pc at *
  rw [ep] at g
  have k1 := z10 (p + 1)
  have k2 := z10 (dg (ab yc) : Int)
  have k3 := z10 ye
  have z := zpow_log xp (s := (l : Rat) * (1 / (10 ^ (p + 1) * 10 ^ (dg (ab yc) : Int) * 10 ^ ye))) (d := 88 / 100 * (1 / (10 ^ (p + 1) * 10 ^ (dg (ab yc) : Int) * 10 ^ ye))) (g.1.mono (by grind) Rat.le_refl) (g.2.mono (by grind) Rat.le_refl) (dpN yc ye)
  rw [eN, eA, ← em] at z
  have k4 := z10 (max (-ye) 0)
  generalize (yc.natAbs : Rat) = Y at *
  generalize (10 : Rat) ^ (p + 1) = N at *
  generalize (10 : Rat) ^ (dg (ab yc) : Int) = B at *
  generalize (10 : Rat) ^ ye = e at *
  generalize (10 : Rat) ^ (max (-ye) 0) = t at *
  have ni := inv_pos k1
  have bi := inv_pos k2
  have ei := inv_pos k3
  have ub : B * (1 / B) = 1 := by grind
  have ue : e * (1 / e) = 1 := by grind
  have e3 : (1 : Rat) / (N * B * e) = (1 / N) * (1 / B) * (1 / e) := by grind
  rw [e3] at z
  obtain ⟨d1, d2⟩ := d
  have kb : (l : Rat) * yc / B = l * yc * (1 / B) := by grind
  rw [kb] at d1 d2
  have yb := Rat.mul_le_mul_of_nonneg_right yl' (show (0 : Rat) ≤ 1 / B by grind)
  rw [ub] at yb
  have nt : (0 : Rat) ≤ 1 / N * t := Rat.mul_nonneg (by grind) (by grind)
  generalize (1 : Rat) / N = n1 at *
  generalize (1 : Rat) / B = b1 at *
  generalize (1 : Rat) / e = e1 at *
  have s1 : (yc : Rat) * (t * e) * (l * (n1 * b1 * e1)) = l * yc * b1 * (n1 * t) * (e * e1) := by grind
  have s2 : Y * (t * e) * (88 / 100 * (n1 * b1 * e1)) = 88 / 100 * (Y * b1) * (n1 * t) * (e * e1) := by grind
  rw [s1, s2, ue] at z
  have a1 := Rat.mul_le_mul_of_nonneg_right (show (pc : Rat) - 138 / 100 ≤ l * yc * b1 - 88 / 100 * (Y * b1) by grind) nt
  have a2 := Rat.mul_le_mul_of_nonneg_right (show l * yc * b1 + 88 / 100 * (Y * b1) ≤ (pc : Rat) + 138 / 100 by grind) nt
  exact ⟨z.1.mono (by grind) Rat.le_refl, z.2.mono (by grind) Rat.le_refl⟩
end Mine

namespace Mine
open Lg
/-- quot is small against 10 ** extra -/
theorem dxQ_abs {c p : Int} (h : DxPre c p) : ((dxQ c p).natAbs : Int) ≤ 5 * 10 ^ (dxE c p).toNat + 1 := by
  have x := dxE_facts h
  have p1 := h.p1
  have p2 := h.p2
  have t := tenQ_lo (q := p + 1 + 2 + dxE c p) (by lia) (by lia)
  have dgc := (dg_any h.c0).1
  have cb : (c.natAbs : Int) < 10 ^ (dxE c p + p + 2).toNat := by
    have : (10 : Int) ^ dg c ≤ 10 ^ (dxE c p + p + 2).toNat := ten_le (by lia)
    lia
  unfold dxQ dxS dxT
  have e1 : (-(p + 1) + (p + 1 + 2 + dxE c p)).toNat = (dxE c p).toNat + 2 := by lia
  rw [e1]
  have T0 : 0 < tenQ (p + 1 + 2 + dxE c p) := by have := ten_pos (p + 1 + 2 + dxE c p).toNat; lia
  have fb := fdiv_b (a := c * 10 ^ ((dxE c p).toNat + 2)) T0
  have e2 : (10 : Int) ^ (p + 1 + 2 + dxE c p).toNat * (10 * 10 ^ (dxE c p).toNat) = 10 ^ (dxE c p + p + 2).toNat * 10 ^ ((dxE c p).toNat + 2) := by
    have : (10 : Int) * 10 ^ (dxE c p).toNat = 10 ^ ((dxE c p).toNat + 1) := by rw [Int.pow_succ]; lia
    rw [this, ← ten_add, ← ten_add]
    congr 1
    lia
  have q0 := ten_pos ((dxE c p).toNat + 2)
  have b0 := ten_pos (dxE c p).toNat
  generalize tenQ (p + 1 + 2 + dxE c p) = T at *
  generalize (10 : Int) ^ (p + 1 + 2 + dxE c p).toNat = A at *
  generalize (10 : Int) ^ (dxE c p + p + 2).toNat = G at *
  generalize (10 : Int) ^ ((dxE c p).toNat + 2) = H at *
  generalize (10 : Int) ^ (dxE c p).toNat = B at *
  have m1 := Int.mul_le_mul_of_nonneg_right (show c ≤ G by lia) (show 0 ≤ H by lia)
  have m2 := Int.mul_le_mul_of_nonneg_right (show -G ≤ c by lia) (show 0 ≤ H by lia)
  rw [Int.neg_mul] at m2
  have m3 := Int.mul_le_mul_of_nonneg_right t.1 (show 0 ≤ 5 * B by lia)
  have e3 : 2 * A * (5 * B) = A * (10 * B) := by grind
  rw [e3, e2] at m3
  generalize c * H = S at *
  generalize S.fdiv T = q at *
  have z1 : q ≤ 5 * B + 1 := by
    rcases Int.lt_or_le (5 * B + 1) q with y | y
    · exfalso
      have m := Int.mul_le_mul_of_nonneg_left (show 5 * B + 2 ≤ q by lia) (show 0 ≤ T by lia)
      rw [Int.mul_add] at m
      lia
    · exact y
  have z2 : -(5 * B + 1) ≤ q := by
    rcases Int.lt_or_le q (-(5 * B + 1)) with y | y
    · exfalso
      have m := Int.mul_le_mul_of_nonneg_left (show q ≤ -(5 * B) - 2 by lia) (show 0 ≤ T by lia)
      rw [Int.mul_sub, Int.mul_neg] at m
      lia
    · exact y
  lia
theorem re1 (q T Y b n r : Rat) : (q * T - Y) * (1 / 100 * n * b) + (r - 9) * (1 / 100 * n) = (T * q * b - Y * b + (r - 9)) * (1 / 100) * n := by grind
theorem re2 (q T Y b n r : Rat) : (q * T + Y) * (1 / 100 * n * b) + (r + 9) * (1 / 100 * n) = (T * q * b + Y * b + (r + 9)) * (1 / 100) * n := by grind
/-- what _dexp's great exponential is -/
noncomputable def dxW (c p : Int) : Int := iexp (dxR c p) (10 ^ (p + 1 + 2).toNat)
theorem dexp_good {c p : Int} (h : DxPre c p) : (10 : Int) ^ (p + 1 + 2).toNat ≤ dxW c p ∧
    LO (((c : Rat) - 17 / 100) * (1 / 10 ^ (p + 1))) (10 ^ dxQ c p * ((dxW c p : Rat) * (1 / 10 ^ (p + 3)))) ∧ UP (((c : Rat) + 17 / 100) * (1 / 10 ^ (p + 1))) (10 ^ dxQ c p * ((dxW c p : Rat) * (1 / 10 ^ (p + 3)))) := by
  have p1 := h.p1
  have p2 := h.p2
  have x := dxE_facts h
  have E := dx_pre h
  have ef := exR_facts E
  have g := exp_good (x := dxR c p) (M := 10 ^ (p + 1 + 2).toNat) (R := (exR (dxR c p) (10 ^ (p + 1 + 2).toNat)).toNat) (T := TT (10 ^ (p + 1 + 2).toNat)) E.m4 E.x0 E.x3 ef.2.2 (by lia) (TT_pos (by have := E.m4; lia)) (TT_rat (by have := E.m4; lia))
  rw [show iexpN (dxR c p) (10 ^ (p + 1 + 2).toNat) (exR (dxR c p) (10 ^ (p + 1 + 2).toNat)).toNat (TT (10 ^ (p + 1 + 2).toNat)) = dxW c p from rfl] at g
  refine ⟨g.1, ?_⟩
  have gl := g.2
  have w0 : (0 : Rat) < (dxW c p : Rat) := by
    have := clt (show 0 < dxW c p by have := g.1; have := ten_pos (p + 1 + 2).toNat; lia)
    push_cast at this; exact this
  rw [z10_nat (n := p + 1 + 2) (by lia)] at gl
  have e3 : p + 1 + 2 = p + 3 := by lia
  have t := ten_log (q := p + 1 + 2 + dxE c p) (by lia) (by lia) (dxQ c p)
  have qa := cle (dxQ_abs h)
  have qa' : ((dxQ c p).natAbs : Rat) ≤ 5 * 10 ^ dxE c p + 1 := by
    rw [Rat.intCast_add, Rat.intCast_mul, z10_nat x.1] at qa
    push_cast at qa
    exact_mod_cast qa
  have T0 : 0 < tenQ (p + 1 + 2 + dxE c p) := by have := tenQ_lo (q := p + 1 + 2 + dxE c p) (by lia) (by lia); have := ten_pos (p + 1 + 2 + dxE c p).toNat; lia
  have dm : (c : Rat) * (100 * 10 ^ dxE c p) = tenQ (p + 1 + 2 + dxE c p) * dxQ c p + ((dxS c p).fmod (dxT c p) : Int) := by
    have e := Int.mul_fdiv_add_fmod (dxS c p) (dxT c p)
    have e4 : ((dxT c p * (dxS c p).fdiv (dxT c p) + (dxS c p).fmod (dxT c p) : Int) : Rat) = ((dxS c p : Int) : Rat) := by rw [e]
    have e5 : ((dxS c p : Int) : Rat) = (c : Rat) * (100 * 10 ^ dxE c p) := by
      unfold dxS
      rw [Rat.intCast_mul, z10_nat (by lia)]
      have : -(p + 1) + (p + 1 + 2 + dxE c p) = 2 + dxE c p := by lia
      rw [this, z10_add]
      congr 2
    rw [← e5, ← e4, Rat.intCast_add, Rat.intCast_mul]
    rfl
  have d := divN_r (a := (dxS c p).fmod (dxT c p)) (b := 10 ^ (dxE c p).toNat) (ten_pos _)
  rw [show divN ((dxS c p).fmod (dxT c p)) (10 ^ (dxE c p).toNat) = dxR c p from rfl, z10_nat x.1] at d
  rw [z10_add (p + 1 + 2) (dxE c p)] at t
  have e100 : (10 : Rat) ^ (p + 3) = 10 ^ (p + 1) * 100 := by
    have : p + 3 = p + 1 + 2 := by lia
    rw [this, z10_add]; congr 1
  generalize tenQ (p + 1 + 2 + dxE c p) = T at *
  rw [e3, e100] at gl t
  rw [e100]
  have kN := z10 (p + 1)
  have kB := z10 (dxE c p)
  have b1 : (1 : Rat) ≤ 10 ^ dxE c p := by
    rw [← z10_nat x.1]
    have := cle (show 1 ≤ (10 : Int) ^ (dxE c p).toNat by have := ten_pos (dxE c p).toNat; lia)
    push_cast at this ⊢
    exact this
  generalize (dxS c p).fmod (dxT c p) = r0 at *
  generalize dxR c p = r at *
  have qz := z10 (dxQ c p)
  generalize ((dxQ c p).natAbs : Rat) = Y at *
  generalize hq10 : (10 : Rat) ^ dxQ c p = qq at *
  generalize dxQ c p = q at *
  generalize (10 : Rat) ^ (p + 1) = N at *
  generalize (10 : Rat) ^ dxE c p = B at *
  generalize (dxW c p : Rat) = W at *
  have ni := inv_pos kN
  have bi := inv_pos kB
  have ub : B * (1 / B) = 1 := by grind
  have en : (1 : Rat) / (N * 100) = 1 / 100 * (1 / N) := by grind
  have enb : (1 : Rat) / (N * 100 * B) = 1 / 100 * (1 / N) * (1 / B) := by grind
  have ew : W / (N * 100) = W * (1 / (N * 100)) := by grind
  rw [ew, en] at gl
  rw [enb] at t
  rw [en]
  have wp : (0 : Rat) < W * (1 / 100 * (1 / N)) := Rat.mul_pos w0 (by grind)
  have l := t.1.mul gl.1 wp
  have u := t.2.mul gl.2 qz
  obtain ⟨d1, d2⟩ := d
  have rb : (r0 : Rat) / B = r0 * (1 / B) := by grind
  rw [rb] at d1 d2
  have b1i : 1 / B ≤ 1 := by have := inv_le (show (0 : Rat) < 1 by grind) b1; grind
  have yb := Rat.mul_le_mul_of_nonneg_right qa' (show (0 : Rat) ≤ 1 / B by grind)
  have yb2 : (5 * B + 1) * (1 / B) = 5 + 1 / B := by grind
  rw [yb2] at yb
  -- c in the small unit
  have dm2 : (c : Rat) * 100 = T * q * (1 / B) + r0 * (1 / B) := by
    have : (c : Rat) * (100 * B) * (1 / B) = c * 100 * (B * (1 / B)) := by grind
    rw [ub] at this
    have h2 : (T * q + (r0 : Rat)) * (1 / B) = T * q * (1 / B) + r0 * (1 / B) := by grind
    rw [← h2, ← dm, this]
    grind
  generalize (1 : Rat) / N = n1 at *
  generalize (1 : Rat) / B = b1 at *
  have a1 := Rat.mul_le_mul_of_nonneg_right (show (c : Rat) - 17 / 100 ≤ (T * q * b1 - Y * b1 + (r - 9)) * (1 / 100) by grind) (show (0 : Rat) ≤ n1 by grind)
  have a2 := Rat.mul_le_mul_of_nonneg_right (show (T * q * b1 + Y * b1 + (r + 9)) * (1 / 100) ≤ (c : Rat) + 17 / 100 by grind) (show (0 : Rat) ≤ n1 by grind)
  rw [re1] at l
  rw [re2] at u
  exact ⟨l.mono a1 Rat.le_refl, u.mono a2 Rat.le_refl⟩
end Mine

namespace Mine
open Lg
/-- the exponential lies below ten times its scale, but for a hundred -/
theorem dxW_hi {c p : Int} (h : DxPre c p) : dxW c p < 10 * 10 ^ (p + 1 + 2).toNat + 100 := by
  have p1 := h.p1
  have p2 := h.p2
  have x := dxE_facts h
  have E := dx_pre h
  have ef := exR_facts E
  have g := exp_good (x := dxR c p) (M := 10 ^ (p + 1 + 2).toNat) (R := (exR (dxR c p) (10 ^ (p + 1 + 2).toNat)).toNat) (T := TT (10 ^ (p + 1 + 2).toNat)) E.m4 E.x0 E.x3 ef.2.2 (by lia) (TT_pos (by have := E.m4; lia)) (TT_rat (by have := E.m4; lia))
  rw [show iexpN (dxR c p) (10 ^ (p + 1 + 2).toNat) (exR (dxR c p) (10 ^ (p + 1 + 2).toNat)).toNat (TT (10 ^ (p + 1 + 2).toNat)) = dxW c p from rfl] at g
  have gu := g.2.2
  have t := (tenQ_log (q := p + 1 + 2 + dxE c p) (by lia) (by lia)).1
  have T0 : 0 < tenQ (p + 1 + 2 + dxE c p) := by have := tenQ_lo (q := p + 1 + 2 + dxE c p) (by lia) (by lia); have := ten_pos (p + 1 + 2 + dxE c p).toNat; lia
  have r1 := Int.fmod_lt_of_pos (dxS c p) (b := dxT c p) (by unfold dxT; lia)
  have d := divN_r (a := (dxS c p).fmod (dxT c p)) (b := 10 ^ (dxE c p).toNat) (ten_pos _)
  rw [show divN ((dxS c p).fmod (dxT c p)) (10 ^ (dxE c p).toNat) = dxR c p from rfl, z10_nat x.1] at d
  have r2 := cle (Int.le_of_lt r1)
  have m4 := cle (show (10 : Int) ^ 4 ≤ 10 ^ (p + 1 + 2).toNat from ten_le (by lia))
  rw [show dxT c p = tenQ (p + 1 + 2 + dxE c p) from rfl] at *
  rw [z10_nat (n := p + 1 + 2) (by lia)] at gu m4
  rw [z10_add (p + 1 + 2) (dxE c p)] at t
  have e4 : (((10 : Int) ^ 4 : Int) : Rat) = 10000 := by decide
  rw [e4] at m4
  have kM := z10 (p + 1 + 2)
  have kB := z10 (dxE c p)
  have goal : (dxW c p : Rat) < 10 * 10 ^ (p + 1 + 2) + 100 := by
    generalize (dxS c p).fmod (tenQ (p + 1 + 2 + dxE c p)) = r0 at *
    generalize dxR c p = r at *
    generalize tenQ (p + 1 + 2 + dxE c p) = T at *
    generalize (10 : Rat) ^ (p + 1 + 2) = M at *
    generalize (10 : Rat) ^ dxE c p = B at *
    generalize (dxW c p : Rat) = W at *
    have mi := inv_pos kM
    have bi := inv_pos kB
    have um : M * (1 / M) = 1 := by grind
    have m4i : 1 / M ≤ 1 / 10000 := inv_le (by grind) m4
    have emb : (1 : Rat) / (M * B) = 1 / B * (1 / M) := by grind
    rw [emb] at t
    have b1 := LO.base (t := 10 * (1 / M)) (by grind)
    have l := t.mul b1 (by grind)
    obtain ⟨d1, d2⟩ := d
    have rb : (r0 : Rat) / B = r0 * (1 / B) := by grind
    rw [rb] at d1 d2
    have r3 := Rat.mul_le_mul_of_nonneg_right r2 (show (0 : Rat) ≤ 1 / B by grind)
    have q : 99 / 10 * (1 / M) ≤ 10 * (1 / M) / (1 + 10 * (1 / M)) := by
      refine le_of_mul (show (0 : Rat) < 1 + 10 * (1 / M) by grind) ?_
      have : (1 + 10 * (1 / M)) * (10 * (1 / M) / (1 + 10 * (1 / M))) = 10 * (1 / M) := by grind
      rw [this]
      have m := Rat.mul_le_mul_of_nonneg_right m4i (show (0 : Rat) ≤ 1 / M by grind)
      grind
    have lt : ((r : Rat) + 9) * (1 / M) < T * (1 / B * (1 / M)) + 10 * (1 / M) / (1 + 10 * (1 / M)) := by
      have a1 := Rat.mul_le_mul_of_nonneg_right (show (r : Rat) + 9 ≤ T * (1 / B) + 19 / 2 by grind) (show (0 : Rat) ≤ 1 / M by grind)
      have e1 : (T * (1 / B) + 19 / 2) * (1 / M) = T * (1 / B * (1 / M)) + 19 / 2 * (1 / M) := by grind
      rw [e1] at a1
      grind
    have f := lt_of gu l lt
    have e2 : W / M = W * (1 / M) := by grind
    rw [e2] at f
    have m := Rat.mul_lt_mul_of_pos_right f kM
    have e3 : W * (1 / M) * M = W * (M * (1 / M)) := by grind
    have e5 : 10 * (1 + 10 * (1 / M)) * M = 10 * M + 100 * (M * (1 / M)) := by grind
    rw [e3, e5, um] at m
    grind
  rw [← z10_nat (n := p + 1 + 2) (by lia)] at goal
  have : (dxW c p : Rat) < ((10 * 10 ^ (p + 1 + 2).toNat + 100 : Int) : Rat) := by
    rw [Rat.intCast_add, Rat.intCast_mul]
    exact goal
  exact Rat.intCast_lt_intCast.mp this
/-- the coefficient: its range, and how far it lies from the exponential -/
theorem coeff_range {c p : Int} (h : DxPre c p) : 10 ^ (p - 1).toNat ≤ divN (dxV c p) 10 ∧ divN (dxV c p) 10 ≤ 10 ^ p.toNat := by
  have p1 := h.p1
  have lo := (dexp_good h).1
  have hi := dxW_hi h
  have ep : (10 : Int) ^ (p + 1 + 2).toNat = 10 ^ (p - 1).toNat * 10000 := by
    rw [show (p + 1 + 2).toNat = (p - 1).toNat + 4 by lia, ten_add]; rfl
  have ep2 : (10 : Int) ^ p.toNat = 10 ^ (p - 1).toNat * 10 := by
    rw [show p.toNat = (p - 1).toNat + 1 by lia, ten_add]; rfl
  rw [ep] at lo hi
  rw [ep2]
  unfold dxV
  rw [show iexp (dxR c p) (10 ^ (p + 1 + 2).toNat) = dxW c p from rfl]
  have d1 := divN_facts (a := dxW c p) (b := 1000) (by decide)
  generalize divN (dxW c p) 1000 = V at *
  have d2 := divN_facts (a := V) (b := 10) (by decide)
  generalize divN V 10 = z at *
  generalize (10 : Int) ^ (p - 1).toNat = K at *
  generalize dxW c p = W at *
  lia
theorem coeff_near (c p : Int) : Ab ((divN (dxV c p) 10 : Rat) - (dxW c p : Rat) * (1 / 10000)) (55 / 100) := by
  unfold dxV
  rw [show iexp (dxR c p) (10 ^ (p + 1 + 2).toNat) = dxW c p from rfl]
  have d1 := divN_r (a := dxW c p) (b := 1000) (by decide)
  generalize divN (dxW c p) 1000 = V at *
  have d2 := divN_r (a := V) (b := 10) (by decide)
  generalize divN V 10 = z at *
  push_cast at d1 d2
  obtain ⟨a, b⟩ := d1
  obtain ⟨a2, b2⟩ := d2
  constructor <;> grind
end Mine

namespace Mine
open Lg
noncomputable def dpTn (ye : Int) : Nat := ((10 : Int) ^ (max (-ye) 0).toNat).toNat
theorem dpTn_r (ye : Int) : ((dpTn ye : Nat) : Rat) = 10 ^ (max (-ye) 0) := by
  have p := ten_pos (max (-ye) 0).toNat
  have e : ((dpTn ye : Nat) : Int) = 10 ^ (max (-ye) 0).toNat := by unfold dpTn; lia
  have e2 : (((dpTn ye : Nat) : Int) : Rat) = (((10 : Int) ^ (max (-ye) 0).toNat : Int) : Rat) := by rw [e]
  rw [z10_nat (by lia)] at e2
  exact_mod_cast e2
theorem dpTn_pos (ye : Int) : 0 < dpTn ye := by
  have p := ten_pos (max (-ye) 0).toNat
  unfold dpTn; lia
theorem mul_lt' {a b c : Rat} (h : a < b) (hc : 0 < c) : a * c < b * c := Rat.mul_lt_mul_of_pos_right h hc
theorem x_pos {xc xe yc ye p : Int} (h : DpPre xc xe yc ye p) : (0 : Rat) < (xc : Rat) * 10 ^ xe :=
  Rat.mul_pos (by have := clt (show 0 < xc by have := h.x1; lia); push_cast at this; exact this) (z10 _)
theorem n_ge {p : Int} (h : 1 ≤ p) : (100 : Rat) ≤ 10 ^ (p + 1) := by
  rw [← z10_nat (by lia)]
  have := cle (show (10 : Int) ^ 2 ≤ 10 ^ (p + 1).toNat from ten_le (by lia))
  have e : (((10 : Int) ^ 2 : Int) : Rat) = 100 := by decide
  rwa [e] at this
/-- an upper bound of a root gives one of the power -/
theorem below {ye : Int} {A P r s : Rat} (hA : 0 ≤ A) (hP : 0 < P) (u : UP r A) (l : LO (s * 10 ^ (max (-ye) 0)) P) (h : r < s) : A ^ dpTn ye < P := by
  rcases Rat.le_iff_lt_or_eq.mp hA with a | a
  · have up := u.pow a (dpTn ye)
    rw [dpTn_r] at up
    refine lt_of up l ?_
    have := mul_lt' h (z10 (max (-ye) 0))
    grind
  · have z : A = 0 := a.symm
    subst z
    have : (0 : Rat) ^ dpTn ye = 0 := by
      obtain ⟨k, e⟩ : ∃ k, dpTn ye = k + 1 := ⟨dpTn ye - 1, by have := dpTn_pos ye; lia⟩
      rw [e, Rat.pow_succ]; grind
    rw [this]; exact hP
theorem above {ye : Int} {A P r s : Rat} (hA : 0 < A) (u : UP (r * 10 ^ (max (-ye) 0)) P) (l : LO s A) (h : r < s) : P < A ^ dpTn ye := by
  have lo := l.pow hA (dpTn ye)
  rw [dpTn_r] at lo
  refine lt_of u lo ?_
  have := mul_lt' h (z10 (max (-ye) 0))
  grind
/-- the coefficient's neighbours, by logarithms -/
theorem big_bounds {c p : Int} (h : DxPre c p) (z e : Int) (hz : z = divN (dxV c p) 10) (he : e = dxQ c p - (p + 1 + 2) + 3 + 1) :
    UP (((c : Rat) - 4) * (1 / 10 ^ (p + 1))) (((z : Rat) - 1) * 10 ^ e) ∧ LO (((c : Rat) + 4) * (1 / 10 ^ (p + 1))) (((z : Rat) + 1) * 10 ^ e) := by
  have p1 := h.p1
  have g := dexp_good h
  have hi := clt (dxW_hi h)
  have nr := coeff_near c p
  rw [← hz] at nr
  have w1 := cle g.1
  rw [Rat.intCast_add, Rat.intCast_mul] at hi
  rw [z10_nat (n := p + 1 + 2) (by lia)] at w1 hi
  have e100 : (10 : Rat) ^ (p + 3) = 10 ^ (p + 1) * 100 := by
    rw [show p + 3 = p + 1 + 2 by lia, z10_add]; congr 1
  rw [show p + 1 + 2 = p + 3 by lia, e100] at w1 hi
  have n100 := n_ge p1
  have G := g.2
  have eG : (10 : Rat) ^ dxQ c p * ((dxW c p : Rat) * (1 / 10 ^ (p + 3))) = (dxW c p : Rat) * (1 / 10000) * 10 ^ e := by
    have e1 : (10 : Rat) ^ e = 10 ^ dxQ c p * 10 ^ (-(p + 3)) * 10000 := by
      rw [he, show dxQ c p - (p + 1 + 2) + 3 + 1 = dxQ c p + -(p + 3) + 4 by lia, z10_add, z10_add]; congr 1
    have z1 := z10_neg (p + 3)
    have e2 : (1 : Rat) / 10 ^ (p + 3) = 10 ^ (-(p + 3)) := by have := z10 (p + 3); grind
    rw [e1, e2]
    grind
  rw [eG] at G
  have ep := z10 e
  have kN := z10 (p + 1)
  push_cast at hi
  generalize (10 : Rat) ^ (p + 1) = N at *
  generalize (10 : Rat) ^ e = X at *
  generalize (dxW c p : Rat) = W at *
  have wp : 0 < W := by grind
  have wi := inv_pos wp
  have ni := inv_pos kN
  have uw : W * (1 / W) = 1 := by grind
  have un : N * (1 / N) = 1 := by grind
  have gp : 0 < W * (1 / 10000) * X := Rat.mul_pos (by grind) ep
  obtain ⟨n1, n2⟩ := nr
  -- 1 / W against 1 / N
  have k1 : 44 / 10 * (1 / N) ≤ 4500 * (1 / W) := by
    refine le_of_mul wp ?_
    have e1 : W * (4500 * (1 / W)) = 4500 * (W * (1 / W)) := by grind
    rw [e1, uw]
    have m := Rat.mul_le_mul_of_nonneg_right (show W ≤ 1001 * N by grind) (show (0 : Rat) ≤ 1 / N by grind)
    have e2 : 1001 * N * (1 / N) = 1001 * (N * (1 / N)) := by grind
    rw [e2, un] at m
    grind
  constructor
  · have b := UP.base (t := -(4500 * (1 / W)))
    have m := G.2.mul b gp
    refine m.mono ?_ ?_
    · grind
    · have a1 := Rat.mul_le_mul_of_nonneg_right (show (z : Rat) - 1 ≤ W * (1 / 10000) - 45 / 100 by grind) (show 0 ≤ X by grind)
      have e3 : W * (1 / 10000) * X * (1 + -(4500 * (1 / W))) = (W * (1 / 10000) - 45 / 100 * (W * (1 / W))) * X := by grind
      rw [e3, uw]
      grind
  · have u0 : 0 < 1 + 4500 * (1 / W) := by grind
    have b := LO.base (t := 4500 * (1 / W)) (by grind)
    have m := G.1.mul b u0
    refine m.mono ?_ ?_
    · have q : 43 / 10 * (1 / N) ≤ 4500 * (1 / W) / (1 + 4500 * (1 / W)) := by
        refine le_of_mul u0 ?_
        have e1 : (1 + 4500 * (1 / W)) * (4500 * (1 / W) / (1 + 4500 * (1 / W))) = 4500 * (1 / W) := by grind
        rw [e1]
        refine le_of_mul wp ?_
        have e2 : W * (4500 * (1 / W)) = 4500 * (W * (1 / W)) := by grind
        have e3 : W * ((1 + 4500 * (1 / W)) * (43 / 10 * (1 / N))) = (W + 4500 * (W * (1 / W))) * (43 / 10 * (1 / N)) := by grind
        rw [e2, e3, uw]
        have m := Rat.mul_le_mul_of_nonneg_right (show W + 4500 * 1 ≤ 1046 * N by grind) (show (0 : Rat) ≤ 43 / 10 * (1 / N) by grind)
        have e4 : 1046 * N * (43 / 10 * (1 / N)) = 1046 * (43 / 10) * (N * (1 / N)) := by grind
        rw [e4, un] at m
        grind
      grind
    · have a1 := Rat.mul_le_mul_of_nonneg_right (show W * (1 / 10000) + 45 / 100 ≤ (z : Rat) + 1 by grind) (show 0 ≤ X by grind)
      have e3 : W * (1 / 10000) * X * (1 + 4500 * (1 / W)) = (W * (1 / 10000) + 45 / 100 * (W * (1 / W))) * X := by grind
      rw [e3, uw]
      grind
end Mine

namespace Mine
open Lg
/-- x against 1 -/
theorem x_side {xc xe yc ye p : Int} (h : DpPre xc xe yc ye p) : (1 ≤ (dg xc : Int) + xe → 1 < (xc : Rat) * 10 ^ xe) ∧ (¬ 1 ≤ (dg xc : Int) + xe → (xc : Rat) * 10 ^ xe < 1) := by
  have x1 := h.x1
  have lo := dg_ge x1
  have hi := dg_lt (M := xc) (by lia)
  have dp := dg_pos (M := xc) (by lia)
  have ne := h.ne
  have k := z10 xe
  constructor
  · intro g
    rcases Int.lt_or_le 0 xe with a | a
    · have c1 := cle x1
      have t : (10 : Rat) ≤ 10 ^ xe := by
        rw [← z10_nat (by lia)]
        have := cle (show (10 : Int) ^ 1 ≤ 10 ^ xe.toNat from ten_le (by lia))
        have e : (((10 : Int) ^ 1 : Int) : Rat) = 10 := by decide
        rwa [e] at this
      push_cast at c1
      have := mul_le_mul c1 t (by grind) (by grind)
      grind
    · have c1 : 10 ^ (-xe).toNat ≤ xc := by
        have : (10 : Int) ^ (-xe).toNat ≤ 10 ^ (dg xc - 1) := ten_le (by lia)
        lia
      have c2 : 10 ^ (-xe).toNat < xc := by
        rcases Int.lt_or_le (10 ^ (-xe).toNat) xc with b | b
        · exact b
        · exact absurd ⟨a, by lia⟩ ne
      have c3 := clt c2
      rw [z10_nat (by lia)] at c3
      have z := z10_neg xe
      have := mul_lt' c3 k
      grind
  · intro g
    have c1 : xc < 10 ^ (-xe).toNat := by
      have : (10 : Int) ^ dg xc ≤ 10 ^ (-xe).toNat := ten_le (by lia)
      lia
    have c3 := clt c1
    rw [z10_nat (by lia)] at c3
    have z := z10_neg xe
    have := mul_lt' c3 k
    grind
theorem pow_gt {X : Rat} (h : 1 < X) (n : Nat) (hn : 0 < n) : 1 < X ^ n := by
  have := pow_lt_pow (show (0 : Rat) ≤ 1 by grind) h n hn
  rwa [one_pow] at this
theorem pow_lt1 {X : Rat} (h0 : 0 < X) (h : X < 1) (n : Nat) (hn : 0 < n) : X ^ n < 1 := by
  have := pow_lt_pow (show (0 : Rat) ≤ X by grind) h n hn
  rwa [one_pow] at this
theorem dpN_sign {yc ye : Int} (h : yc ≠ 0) : (0 < yc → 0 < dpN yc ye) ∧ (yc < 0 → dpN yc ye < 0) := by
  have t := ten_pos (max ye 0).toNat
  unfold dpN
  constructor
  · intro a; exact Int.mul_pos a t
  · intro a; exact Int.mul_neg_of_neg_of_pos a t
theorem zneg (X : Rat) (n : Int) : X ^ (-n) = 1 / X ^ n := by rw [Rat.zpow_neg]; grind
theorem power_side {xc xe yc ye p : Int} (h : DpPre xc xe yc ye p) : ((1 ≤ (dg xc : Int) + xe ↔ 0 < yc) → 1 < ((xc : Rat) * 10 ^ xe) ^ dpN yc ye) ∧ (¬ (1 ≤ (dg xc : Int) + xe ↔ 0 < yc) → ((xc : Rat) * 10 ^ xe) ^ dpN yc ye < 1) := by
  have s := x_side h
  have xp := x_pos h
  have ns := dpN_sign (ye := ye) h.y0
  have y0 := h.y0
  generalize (xc : Rat) * 10 ^ xe = X at *
  generalize dpN yc ye = n at *
  have up : 0 < n → X ^ n = X ^ n.toNat := fun a => by
    obtain ⟨m, rfl⟩ : ∃ m : Nat, n = m := ⟨n.toNat, by lia⟩
    rw [Rat.zpow_natCast, Int.toNat_natCast]
  have dn : n < 0 → X ^ n = 1 / X ^ (-n).toNat := fun a => by
    obtain ⟨m, rfl⟩ : ∃ m : Nat, n = -(m : Int) := ⟨(-n).toNat, by lia⟩
    rw [zneg, Rat.zpow_natCast, show (- -(m : Int)).toNat = m by lia]
  have inv_gt : ∀ q : Rat, 0 < q → q < 1 → 1 < 1 / q := fun q a b => by
    have := mul_lt' b (inv_pos a)
    grind
  have inv_lt : ∀ q : Rat, 1 < q → 1 / q < 1 := fun q b => by
    have := mul_lt' b (inv_pos (show 0 < q by grind))
    grind
  constructor
  · intro g
    rcases Int.lt_or_le 0 yc with a | a
    · rw [up (ns.1 a)]
      exact pow_gt (s.1 (g.mpr a)) _ (by have := ns.1 a; lia)
    · have b := ns.2 (by lia)
      rw [dn b]
      have X1 := s.2 (fun q => by have := g.mp q; lia)
      exact inv_gt _ (pow_pos xp _) (pow_lt1 xp X1 _ (by lia))
  · intro g
    rcases Int.lt_or_le 0 yc with a | a
    · rw [up (ns.1 a)]
      have X1 := s.2 (fun q => g ⟨fun _ => a, fun _ => q⟩)
      exact pow_lt1 xp X1 _ (by have := ns.1 a; lia)
    · have b := ns.2 (by lia)
      rw [dn b]
      have X1 := s.1 (by
        rcases Int.lt_or_le ((dg xc : Int) + xe) 1 with c | c
        · exact absurd ⟨fun q => by lia, fun q => by lia⟩ g
        · exact c)
      exact inv_lt _ (pow_gt X1 _ (by lia))
/-- what the law asks of _dpower, in rationals -/
theorem dp_main {xc xe yc ye p c e : Int} (h : DpPre xc xe yc ye p) (r : DpR xc xe yc ye p c e) :
    (10 ^ (p - 1).toNat ≤ c ∧ c ≤ 10 ^ p.toNat) ∧ (((c : Rat) - 1) * 10 ^ e) ^ dpTn ye < ((xc : Rat) * 10 ^ xe) ^ dpN yc ye ∧ ((xc : Rat) * 10 ^ xe) ^ dpN yc ye < (((c : Rat) + 1) * 10 ^ e) ^ dpTn ye := by
  have g := power_good h
  have p1 := h.p1
  have xp := x_pos h
  have kN := z10 (p + 1)
  have ni := inv_pos kN
  have n100 := n_ge p1
  have i100 : 1 / (10 : Rat) ^ (p + 1) ≤ 1 / 100 := inv_le (by grind) n100
  have un : (10 : Rat) ^ (p + 1) * (1 / 10 ^ (p + 1)) = 1 := by grind
  have pp : (0 : Rat) < ((xc : Rat) * 10 ^ xe) ^ dpN yc ye := Rat.zpow_pos xp
  have ps := power_side h
  have ep1 : (10 : Int) ^ p.toNat = 10 ^ (p - 1).toNat * 10 := by
    rw [show p.toNat = (p - 1).toNat + 1 by lia, ten_add]; rfl
  have tp := ten_pos (p - 1).toNat
  have eNp : (10 : Rat) ^ (p + 1) = 10 ^ p * 10 := by rw [z10_add]; congr 1
  have zp := z10 p
  rcases r with ⟨h0, hs, hc, he⟩ | ⟨h0, hs, hc, he⟩ | ⟨h0, hc, he⟩
  · have pg := ps.1 hs
    rw [h0] at g
    have a1 : ((c : Rat) - 1) * 10 ^ e = 1 := by
      rw [hc, he, Rat.intCast_add, z10_nat (by lia)]
      have := z10_neg (p - 1)
      rw [show -(p - 1) = 1 - p by lia] at this
      push_cast
      grind
    have a2 : ((c : Rat) + 1) * 10 ^ e = 1 + 200 * (1 / 10 ^ (p + 1)) := by
      rw [hc, he, Rat.intCast_add, z10_nat (by lia)]
      have q1 := z10_neg (p - 1)
      rw [show -(p - 1) = 1 - p by lia] at q1
      have q2 : (10 : Rat) ^ (1 - p) * 10 ^ (p + 1) = 100 := by rw [← z10_add, show 1 - p + (p + 1) = 2 by lia]; rfl
      have q3 : (10 : Rat) ^ (1 - p) = 100 * (1 / 10 ^ (p + 1)) := by
        generalize (10 : Rat) ^ (1 - p) = A at *
        generalize (10 : Rat) ^ (p + 1) = N at *
        grind
      have q4 : 200 * (1 / (10 : Rat) ^ (p + 1)) = 2 * 10 ^ (1 - p) := by rw [q3]; grind
      rw [q4]
      push_cast
      grind
    refine ⟨⟨by lia, by lia⟩, ?_, ?_⟩
    · rw [a1, one_pow]; exact pg
    · rw [a2]
      have b := LO.base (t := 200 * (1 / 10 ^ (p + 1))) (by grind)
      refine above (by grind) g.2 b ?_
      have q : 60 * (1 / (10 : Rat) ^ (p + 1)) ≤ 200 * (1 / 10 ^ (p + 1)) / (1 + 200 * (1 / 10 ^ (p + 1))) := by
        generalize (1 : Rat) / 10 ^ (p + 1) = n at *
        refine le_of_mul (show 0 < 1 + 200 * n by grind) ?_
        have e1 : (1 + 200 * n) * (200 * n / (1 + 200 * n)) = 200 * n := by grind
        rw [e1]
        have m := Rat.mul_le_mul_of_nonneg_right i100 (show 0 ≤ n by grind)
        grind
      have e0 : (((0 : Int)) : Rat) = 0 := rfl
      rw [e0]
      grind
  · have pg := ps.2 hs
    rw [h0] at g
    have z := z10_neg p
    have q3 : (10 : Rat) ^ (-p) = 10 * (1 / 10 ^ (p + 1)) := by
      rw [eNp] at un ⊢
      generalize (10 : Rat) ^ (-p) = A at *
      generalize (10 : Rat) ^ p = N at *
      grind
    have a1 : ((c : Rat) - 1) * 10 ^ e = 1 + -(20 * (1 / 10 ^ (p + 1))) := by
      rw [hc, he, Rat.intCast_sub, z10_nat (by lia)]
      push_cast
      have : ((10 : Rat) ^ p - 1 - 1) * 10 ^ (-p) = 10 ^ (-p) * 10 ^ p - 2 * 10 ^ (-p) := by grind
      rw [this, z, q3]
      grind
    have a2 : ((c : Rat) + 1) * 10 ^ e = 1 := by
      rw [hc, he, Rat.intCast_sub, z10_nat (by lia)]
      push_cast
      grind
    have c10 : 10 ≤ (10 : Int) ^ p.toNat := by lia
    refine ⟨⟨by lia, by lia⟩, ?_, ?_⟩
    · rw [a1]
      have b := UP.base (t := -(20 * (1 / (10 : Rat) ^ (p + 1))))
      refine below (by grind) pp b g.1 ?_
      have e0 : (((0 : Int)) : Rat) = 0 := rfl
      rw [e0]
      grind
    · rw [a2, one_pow]; exact pg
  · have D := dp_dx h h0
    have rg := coeff_range D
    rw [← hc] at rg
    have b := big_bounds D c e hc he
    refine ⟨rg, ?_, ?_⟩
    · have c1 := cle (show 1 ≤ c by lia)
      push_cast at c1
      have nn : 0 ≤ ((c : Rat) - 1) * 10 ^ e := Rat.mul_nonneg (by grind) (by have := z10 e; grind)
      exact below nn pp b.1 g.1 (mul_lt' (by grind) ni)
    · have c1 := cle (show 1 ≤ c by lia)
      push_cast at c1
      have nn : 0 < ((c : Rat) + 1) * 10 ^ e := Rat.mul_pos (by grind) (z10 e)
      exact above nn g.2 b.2 (mul_lt' (by grind) ni)
end Mine

namespace Mine
open Lg
/-- where the power lies near 1, the logarithm of x does near 0 -/
theorem near_both {X eps : Rat} {n ye : Int} (hX : 0 < X) (hn : n ≠ 0) (he : 0 < eps) (he2 : eps ≤ 1 / 1000) (h1 : (1 - eps) ^ dpTn ye < X ^ n) (h2 : X ^ n < (1 + eps) ^ dpTn ye) :
    (∀ s, LO s X → (n.natAbs : Rat) * s ≤ (dpTn ye : Rat) * (1001 / 1000 * eps * (1001 / 1000))) ∧ (∀ s, UP s X → -((dpTn ye : Rat) * (1001 / 1000 * eps * (1001 / 1000))) ≤ (n.natAbs : Rat) * s) := by
  have tp : (0 : Rat) ≤ (dpTn ye : Rat) := by exact_mod_cast Nat.zero_le _
  have U := (UP.base (t := eps)).pow (by grind) (dpTn ye)
  have L := (LO.base (t := -eps) (by grind)).pow (by grind) (dpTn ye)
  rw [show (1 : Rat) + -eps = 1 - eps by grind] at L
  have q : -(1001 / 1000 * eps * (1001 / 1000)) ≤ -eps / (1 - eps) := by
    refine le_of_mul (show 0 < 1 - eps by grind) ?_
    have e1 : (1 - eps) * (-eps / (1 - eps)) = -eps := by grind
    rw [e1]
    have m := Rat.mul_le_mul_of_nonneg_right he2 (show 0 ≤ eps by grind)
    grind
  have qm := Rat.mul_le_mul_of_nonneg_left q tp
  have pm := Rat.mul_le_mul_of_nonneg_left (show eps ≤ 1001 / 1000 * eps * (1001 / 1000) by grind) tp
  have hi : ∀ s, LO s (X ^ n) → s ≤ (dpTn ye : Rat) * (1001 / 1000 * eps * (1001 / 1000)) := fun s a => by
    have := (a.mono Rat.le_refl (show X ^ n ≤ (1 + eps) ^ dpTn ye by grind)).le U
    grind
  have lo : ∀ s, UP s (X ^ n) → -((dpTn ye : Rat) * (1001 / 1000 * eps * (1001 / 1000))) ≤ s := fun s a => by
    have := L.le (a.mono Rat.le_refl (show (1 - eps) ^ dpTn ye ≤ X ^ n by grind))
    grind
  generalize (dpTn ye : Rat) * (1001 / 1000 * eps * (1001 / 1000)) = B at *
  rcases Int.lt_or_le n 0 with x | x
  · obtain ⟨m, rfl⟩ : ∃ m : Nat, n = -(m : Int) := ⟨(-n).toNat, by lia⟩
    have e : (X ^ (-(m : Int)) : Rat) = 1 / X ^ m := by rw [zneg, Rat.zpow_natCast]
    have ea : (-(m : Int)).natAbs = m := by lia
    rw [e] at hi lo
    rw [ea]
    have p := pow_pos hX m
    constructor
    · intro s a
      have := lo _ ((a.pow hX m).inv p)
      grind
    · intro s a
      have := hi _ ((a.pow hX m).inv p)
      grind
  · obtain ⟨m, rfl⟩ : ∃ m : Nat, n = (m : Int) := ⟨n.toNat, by lia⟩
    have ea : ((m : Int)).natAbs = m := by lia
    rw [Rat.zpow_natCast] at hi lo
    rw [ea]
    exact ⟨fun s a => hi _ (a.pow hX m), fun s a => lo _ (a.pow hX m)⟩
theorem dpN_abs (yc ye : Int) : (((dpN yc ye).natAbs : Nat) : Rat) = (yc.natAbs : Rat) * 10 ^ (max ye 0) := by
  have e1 : (((dpN yc ye).natAbs : Nat) : Int) = (yc.natAbs : Int) * 10 ^ (max ye 0).toNat := by
    unfold dpN
    rw [Int.natAbs_mul]
    push_cast
    congr 1
  have e2 : (((((dpN yc ye).natAbs : Nat) : Int)) : Rat) = (((yc.natAbs : Int) * 10 ^ (max ye 0).toNat : Int) : Rat) := by rw [e1]
  rw [Rat.intCast_mul, z10_nat (by lia)] at e2
  exact_mod_cast e2
/-- near 1 pc is 0 -/
theorem near_zero {xc xe yc ye p : Int} (h : DpPre xc xe yc ye p)
    (h1 : (1 - 1 / (10 : Rat) ^ (p + 2)) ^ dpTn ye < ((xc : Rat) * 10 ^ xe) ^ dpN yc ye) (h2 : ((xc : Rat) * 10 ^ xe) ^ dpN yc ye < (1 + 1 / (10 : Rat) ^ (p + 2)) ^ dpTn ye) : dpC xc xe yc ye p = 0 := by
  have p1 := h.p1
  have y1 := h.ye1
  have y2 := h.ye2
  have y0 := h.y0
  have xp := x_pos h
  have n := dpn_facts h
  have ns := dpN_sign (ye := ye) y0
  have ke := z10 (p + 2)
  have k1000 : (1000 : Rat) ≤ 10 ^ (p + 2) := by
    rw [← z10_nat (by lia)]
    have := cle (show (10 : Int) ^ 3 ≤ 10 ^ (p + 2).toNat from ten_le (by lia))
    have e : (((10 : Int) ^ 3 : Int) : Rat) = 1000 := by decide
    rwa [e] at this
  have i1000 : 1 / (10 : Rat) ^ (p + 2) ≤ 1 / 1000 := inv_le (by grind) k1000
  have nb := near_both xp (show dpN yc ye ≠ 0 by rcases Int.lt_or_le 0 yc with a | a; (have := ns.1 a; lia); (have := ns.2 (by lia); lia)) (inv_pos ke) i1000 h1 h2
  have hl := dp_dl h (D := (dg (ab yc) : Int)) (by lia) (by lia)
  have f := dlF_facts hl
  -- the sizes
  have Y1 : (1 : Rat) ≤ (yc.natAbs : Rat) := by
    have := cle (show 1 ≤ (yc.natAbs : Int) by lia)
    exact_mod_cast this
  have tN : (dpTn ye : Rat) = 10 ^ (max (-ye) 0) := dpTn_r ye
  have aN := dpN_abs yc ye
  have em : (10 : Rat) ^ (max (-ye) 0) * 10 ^ ye = 10 ^ (max ye 0) := by rw [← z10_add]; congr 1; lia
  rw [tN, aN] at nb
  have kt := z10 (max (-ye) 0)
  have km := z10 (max ye 0)
  have ky := z10 ye
  have y3 : 1 ≤ (10 : Rat) ^ ye * 1000 := by
    have : (10 : Rat) ^ (ye + 3) = 10 ^ ye * 1000 := by rw [z10_add]; congr 1
    rw [← this, ← z10_nat (by lia)]
    have := cle (show 1 ≤ (10 : Int) ^ (ye + 3).toNat by have := ten_pos (ye + 3).toNat; lia)
    push_cast at this ⊢
    exact this
  -- x lies between a tenth and ten
  have f0 : dlF xc xe = 0 := by
    have x1 := h.x1
    have c1 := cle x1
    have lo := cle (dg_ge x1)
    have hi := cle (Int.le_of_lt (dg_lt (M := xc) (by lia)))
    have dp := dg_pos (M := xc) (by lia)
    have b2 : LO 2 10 := by
      have t := (tenQ_log (q := 0) (by decide) (by decide)).1
      have e : (tenQ 0 : Rat) * (1 / 10 ^ (0 : Int)) = 2 := by
        have : tenQ 0 = 2 := by decide +kernel
        rw [this, Rat.zpow_zero]; decide +kernel
      rwa [e] at t
    have bad : ¬ ((yc.natAbs : Rat) * 10 ^ (max ye 0) * 2 ≤ 10 ^ (max (-ye) 0) * (1001 / 1000 * (1 / 10 ^ (p + 2)) * (1001 / 1000))) := by
      intro b
      rw [← em] at b
      generalize (yc.natAbs : Rat) = Y at *
      generalize (10 : Rat) ^ (max (-ye) 0) = t at *
      generalize (10 : Rat) ^ ye = w at *
      generalize (1 : Rat) / 10 ^ (p + 2) = ep at *
      have yw : w ≤ Y * w := by
        have := Rat.mul_le_mul_of_nonneg_right Y1 (show 0 ≤ w by grind)
        grind
      have e1 : Y * (t * w) * 2 = t * (2 * (Y * w)) := by grind
      rw [e1] at b
      have := le_of_mul kt b
      grind
    rcases Int.lt_trichotomy (dlF xc xe) 0 with a | a | a
    · exfalso
      have dl : (dg xc : Int) + xe ≤ -1 := by lia
      have X1 : (xc : Rat) * 10 ^ xe ≤ 1 / 10 := by
        have e : (((10 : Int) ^ dg xc : Int) : Rat) = 10 ^ (dg xc : Int) := by rw [c10, Rat.zpow_natCast]
        rw [e] at hi
        have m := Rat.mul_le_mul_of_nonneg_right hi (show (0 : Rat) ≤ 10 ^ xe by have := z10 xe; grind)
        rw [← z10_add] at m
        have z : (10 : Rat) ^ ((dg xc : Int) + xe) ≤ 1 / 10 := by
          obtain ⟨j, ej⟩ : ∃ j : Nat, (dg xc : Int) + xe = -(j + 1 : Nat) := ⟨(-((dg xc : Int) + xe)).toNat - 1, by lia⟩
          rw [ej, zneg, Rat.zpow_natCast]
          refine inv_le (by grind) ?_
          rw [Rat.pow_succ]
          have := pow_le_pow (show (0 : Rat) ≤ 1 by grind) (show (1 : Rat) ≤ 10 by grind) j
          rw [one_pow] at this
          grind
        grind
      have u2 : UP (-2) ((xc : Rat) * 10 ^ xe) := (b2.inv (by grind)).mono Rat.le_refl X1
      have := nb.2 _ u2
      exact bad (by grind)
    · exact a
    · exfalso
      have dl : 2 ≤ (dg xc : Int) + xe := by lia
      have X1 : 10 ≤ (xc : Rat) * 10 ^ xe := by
        have e : (((10 : Int) ^ (dg xc - 1) : Int) : Rat) = 10 ^ ((dg xc : Int) - 1) := by
          rw [c10, ← Rat.zpow_natCast]; congr 1; lia
        rw [e] at lo
        have m := Rat.mul_le_mul_of_nonneg_right lo (show (0 : Rat) ≤ 10 ^ xe by have := z10 xe; grind)
        rw [← z10_add] at m
        have z : 10 ≤ (10 : Rat) ^ ((dg xc : Int) - 1 + xe) := by
          rw [← z10_nat (by lia)]
          have := cle (show (10 : Int) ^ 1 ≤ 10 ^ ((dg xc : Int) - 1 + xe).toNat from ten_le (by lia))
          have e : (((10 : Int) ^ 1 : Int) : Rat) = 10 := by decide
          rwa [e] at this
        grind
      have l2 : LO 2 ((xc : Rat) * 10 ^ xe) := b2.mono Rat.le_refl X1
      have := nb.1 _ l2
      exact bad (by grind)
  -- what _ilog tells
  have v := dl_v hl
  rw [f0, show xe - 0 = xe by lia] at v
  have A := nb.1 _ v.1
  have B := nb.2 _ v.2
  have dl : dlog xc xe (p + ((dg (ab yc) : Int) + ye) + 1) = divN (ilog (dlC xc xe (p + ((dg (ab yc) : Int) + ye) + 1 + 2)) (10 ^ (p + ((dg (ab yc) : Int) + ye) + 1 + 2).toNat)) 100 := by
    unfold dlog
    rw [f0]
    congr 1
    show dlT 0 _ + _ = _
    unfold dlT
    rw [if_pos rfl]
    lia
  have ez : (10 : Rat) ^ (p + ((dg (ab yc) : Int) + ye) + 1 + 2) = 10 ^ (p + 2) * 10 ^ (dg (ab yc) : Int) * 10 ^ ye * 10 := by
    rw [← z10_add, ← z10_add, show p + ((dg (ab yc) : Int) + ye) + 1 + 2 = p + 2 + (dg (ab yc) : Int) + ye + 1 by lia, z10_add _ 1]
    congr 1
  rw [ez] at A B
  have en : (((10 : Int) ^ dg (ab yc) : Int) : Rat) = 10 ^ (dg (ab yc) : Int) := by rw [c10, Rat.zpow_natCast]
  have kn := z10 (dg (ab yc) : Int)
  rw [← em] at A B
  generalize ilog (dlC xc xe (p + ((dg (ab yc) : Int) + ye) + 1 + 2)) (10 ^ (p + ((dg (ab yc) : Int) + ye) + 1 + 2).toNat) = il at *
  have key : (yc.natAbs : Rat) * (il - 273 / 10) ≤ 10011 / 1000 * (1001 / 1000) * 10 ^ (dg (ab yc) : Int) ∧ -(10011 / 1000 * (1001 / 1000) * 10 ^ (dg (ab yc) : Int)) ≤ (yc.natAbs : Rat) * (il + 27) := by
    clear nb h1 h2 v
    generalize (yc.natAbs : Rat) = Y at *
    generalize (10 : Rat) ^ (max (-ye) 0) = t at *
    generalize (10 : Rat) ^ ye = w at *
    generalize (10 : Rat) ^ (p + 2) = K at *
    generalize (10 : Rat) ^ (dg (ab yc) : Int) = N at *
    have wi := inv_pos ky
    have ki := inv_pos ke
    have nni := inv_pos kn
    have e1 : (1 : Rat) / (K * N * w * 10) = 1 / 10 * (1 / K) * (1 / N) * (1 / w) := by grind
    rw [e1] at A B
    have uw : w * (1 / w) = 1 := by grind
    have un : N * (1 / N) = 1 := by grind
    constructor
    · have a1 : Y * (t * w) * ((il - 273 / 10) * (1 / 10 * (1 / K) * (1 / N) * (1 / w))) = t * (1 / K) * (1 / 10 * (1 / N) * (Y * (il - 273 / 10)) * (w * (1 / w))) := by grind
      have a2 : t * (1001 / 1000 * (1 / K) * (1001 / 1000)) = t * (1 / K) * (1001 / 1000 * (1001 / 1000)) := by grind
      rw [a1, a2, uw] at A
      have A2 := le_of_mul (Rat.mul_pos kt ki) A
      have A3 := Rat.mul_le_mul_of_nonneg_right A2 (show (0 : Rat) ≤ 10 * N by grind)
      have a3 : 1 / 10 * (1 / N) * (Y * (il - 273 / 10)) * 1 * (10 * N) = Y * (il - 273 / 10) * (N * (1 / N)) := by grind
      rw [a3, un] at A3
      grind
    · have a1 : Y * (t * w) * ((il + 27) * (1 / 10 * (1 / K) * (1 / N) * (1 / w))) = t * (1 / K) * (1 / 10 * (1 / N) * (Y * (il + 27)) * (w * (1 / w))) := by grind
      have a2 : -(t * (1001 / 1000 * (1 / K) * (1001 / 1000))) = t * (1 / K) * -(1001 / 1000 * (1001 / 1000)) := by grind
      rw [a1, a2, uw] at B
      have A2 := le_of_mul (Rat.mul_pos kt ki) B
      have A3 := Rat.mul_le_mul_of_nonneg_right A2 (show (0 : Rat) ≤ 10 * N by grind)
      have a3 : 1 / 10 * (1 / N) * (Y * (il + 27)) * 1 * (10 * N) = Y * (il + 27) * (N * (1 / N)) := by grind
      rw [a3, un] at A3
      grind
  rw [← en] at key
  -- in whole numbers
  have yI : (yc.natAbs : Rat) = ((yc.natAbs : Int) : Rat) := by norm_cast
  rw [yI] at key
  have K1 : 10 * ((yc.natAbs : Int) * il) ≤ 273 * (yc.natAbs : Int) + 101 * 10 ^ dg (ab yc) := by
    have : ((10 * ((yc.natAbs : Int) * il) : Int) : Rat) ≤ ((273 * (yc.natAbs : Int) + 101 * 10 ^ dg (ab yc) : Int) : Rat) := by
      rw [Rat.intCast_add, Rat.intCast_mul, Rat.intCast_mul, Rat.intCast_mul, Rat.intCast_mul]
      have pt := clt (ten_pos (dg (ab yc)))
      have k1 := key.1
      push_cast at k1 pt ⊢
      grind
    exact Rat.intCast_le_intCast.mp this
  have K2 : -(270 * (yc.natAbs : Int) + 101 * 10 ^ dg (ab yc)) ≤ 10 * ((yc.natAbs : Int) * il) := by
    have : ((-(270 * (yc.natAbs : Int) + 101 * 10 ^ dg (ab yc)) : Int) : Rat) ≤ ((10 * ((yc.natAbs : Int) * il) : Int) : Rat) := by
      rw [Rat.intCast_neg, Rat.intCast_add, Rat.intCast_mul, Rat.intCast_mul, Rat.intCast_mul, Rat.intCast_mul]
      have pt := clt (ten_pos (dg (ab yc)))
      have k1 := key.2
      push_cast at k1 pt ⊢
      grind
    exact Rat.intCast_le_intCast.mp this
  unfold dpC
  rw [dl]
  have d1 := divN_facts (a := il) (b := 100) (by decide)
  generalize divN il 100 = l at *
  have d2 := divN_facts (a := l * yc) (ten_pos (dg (ab yc)))
  generalize divN (l * yc) (10 ^ dg (ab yc)) = pc at *
  have eT : (10 : Int) ^ dg (ab yc) = 10 * 10 ^ (dg (ab yc) - 1) := by
    rw [show dg (ab yc) = (dg (ab yc) - 1) + 1 by lia, Int.pow_succ, show dg (ab yc) - 1 + 1 - 1 = dg (ab yc) - 1 by lia]; lia
  have g := n.2.2.2
  have gl := n.2.2.1
  have tp := ten_pos (dg (ab yc))
  clear key A B nb v dl
  -- |l| * |yc| and |il| * |yc|
  have L1 : ((l * yc).natAbs : Int) = (l.natAbs : Int) * yc.natAbs := by rw [Int.natAbs_mul]; push_cast; rfl
  have I1 : (il.natAbs : Int) * yc.natAbs * 10 ≤ 273 * (yc.natAbs : Int) + 101 * 10 ^ dg (ab yc) := by
    rcases Int.lt_or_le il 0 with a | a
    · have : (il.natAbs : Int) * yc.natAbs = -((yc.natAbs : Int) * il) := by
        have : (il.natAbs : Int) = -il := by lia
        rw [this, Int.neg_mul, Int.mul_comm]
      lia
    · have : (il.natAbs : Int) * yc.natAbs = (yc.natAbs : Int) * il := by
        have : (il.natAbs : Int) = il := by lia
        rw [this, Int.mul_comm]
      lia
  have LI : 100 * (l.natAbs : Int) ≤ il.natAbs + 50 := by lia
  have M1 := Int.mul_le_mul_of_nonneg_right LI (show 0 ≤ (yc.natAbs : Int) by lia)
  rw [Int.add_mul, Int.mul_assoc] at M1
  rcases Int.lt_trichotomy pc 0 with a | a | a
  all_goals first | exact a | skip
  all_goals exfalso
  all_goals
    have big : 10 ^ dg (ab yc) ≤ 2 * ((l * yc).natAbs : Int) := by
      generalize (10 : Int) ^ dg (ab yc) = T at *
      first
        | (have := Int.mul_le_mul_of_nonneg_left (show pc ≤ -1 by lia) (show 0 ≤ T by lia); lia)
        | (have := Int.mul_le_mul_of_nonneg_left (show 1 ≤ pc by lia) (show 0 ≤ T by lia); lia)
    rw [L1] at big
    have l1 : (l.natAbs : Int) = 0 ∨ (l.natAbs : Int) = 1 ∨ 2 ≤ (l.natAbs : Int) := by lia
    rcases l1 with b | b | b
    · rw [b] at big; lia
    · rw [b] at big M1; lia
    · have := Int.mul_le_mul_of_nonneg_right b (show 0 ≤ (yc.natAbs : Int) by lia)
      lia
end Mine

namespace Mine
open Lg
theorem cpow (a : Int) (k : Nat) : ((a ^ k : Int) : Rat) = (a : Rat) ^ k := by
  induction k with
  | zero => rfl
  | succ n ih => rw [Int.pow_succ, Rat.intCast_mul, ih, Rat.pow_succ]
theorem cross_lt {A D P R : Int} (hD : 0 < D) (hR : 0 < R) : A * R < P * D ↔ (A : Rat) / D < (P : Rat) / R := by
  have d := clt hD
  have r := clt hR
  push_cast at d r
  have di := inv_pos d
  have ri := inv_pos r
  have ud : (D : Rat) * (1 / D) = 1 := by grind
  have ur : (R : Rat) * (1 / R) = 1 := by grind
  have e1 : (A : Rat) / D = A * (1 / D) := by grind
  have e2 : (P : Rat) / R = P * (1 / R) := by grind
  rw [e1, e2]
  constructor
  · intro h
    have := clt h
    rw [Rat.intCast_mul, Rat.intCast_mul] at this
    have m := mul_lt' (mul_lt' this di) ri
    have a1 : (A : Rat) * R * (1 / D) * (1 / R) = A * (1 / D) * (R * (1 / R)) := by grind
    have a2 : (P : Rat) * D * (1 / D) * (1 / R) = P * (1 / R) * (D * (1 / D)) := by grind
    rw [a1, a2, ur, ud] at m
    grind
  · intro h
    have m := mul_lt' (mul_lt' h d) r
    have a1 : (A : Rat) * (1 / D) * D * R = A * R * (D * (1 / D)) := by grind
    have a2 : (P : Rat) * (1 / R) * D * R = P * D * (R * (1 / R)) := by grind
    rw [a1, a2, ur, ud] at m
    have : ((A * R : Int) : Rat) < ((P * D : Int) : Rat) := by
      rw [Rat.intCast_mul, Rat.intCast_mul]; grind
    exact Rat.intCast_lt_intCast.mp this
theorem div_pow' {a b : Rat} (hb : 0 < b) (k : Nat) : (a / b) ^ k = a ^ k / b ^ k := by
  have p := pow_pos hb k
  have e : a / b = a * (1 / b) := by grind
  have u : b * (1 / b) = 1 := by grind
  have v : b ^ k * (1 / b) ^ k = 1 := by rw [← mul_pow, u, one_pow]
  rw [e, mul_pow]
  grind
/-- a number c * 10 ** e as a fraction -/
theorem frac_r (c e : Int) : ((c * 10 ^ (max e 0).toNat : Int) : Rat) / ((10 ^ (max (-e) 0).toNat : Int) : Rat) = (c : Rat) * 10 ^ e := by
  rw [Rat.intCast_mul, z10_nat (by lia), z10_nat (by lia)]
  have p := z10 (max (-e) 0)
  have m : (10 : Rat) ^ e * 10 ^ (max (-e) 0) = 10 ^ (max e 0) := by rw [← z10_add]; congr 1; lia
  rw [← m]
  grind
theorem frac_pow (c e : Int) (k : Nat) : (((c * 10 ^ (max e 0).toNat) ^ k : Int) : Rat) / (((10 ^ (max (-e) 0).toNat) ^ k : Int) : Rat) = ((c : Rat) * 10 ^ e) ^ k := by
  rw [cpow, cpow, ← div_pow' (by have := clt (ten_pos (max (-e) 0).toNat); push_cast at this ⊢; exact this), frac_r]
noncomputable def pwN (xc xe n : Int) : Int := if n < 0 then (10 ^ (max (-xe) 0).toNat) ^ (-n).toNat else (xc * 10 ^ (max xe 0).toNat) ^ n.toNat
noncomputable def pwD (xc xe n : Int) : Int := if n < 0 then (xc * 10 ^ (max xe 0).toNat) ^ (-n).toNat else (10 ^ (max (-xe) 0).toNat) ^ n.toNat
theorem pw_facts {xc xe n : Int} (h : 1 ≤ xc) : 0 < pwN xc xe n ∧ 0 < pwD xc xe n ∧ (pwN xc xe n : Rat) / (pwD xc xe n : Rat) = ((xc : Rat) * 10 ^ xe) ^ n := by
  have a := Int.mul_pos (show 0 < xc by lia) (ten_pos (max xe 0).toNat)
  have b := ten_pos (max (-xe) 0).toNat
  unfold pwN pwD
  split
  · rename_i hn
    refine ⟨Int.pow_pos b, Int.pow_pos a, ?_⟩
    obtain ⟨m, rfl⟩ : ∃ m : Nat, n = -(m : Int) := ⟨(-n).toNat, by lia⟩
    rw [zneg, Rat.zpow_natCast, show (- -(m : Int)).toNat = m by lia, ← frac_pow]
    have p1 := clt (show 0 < (xc * 10 ^ (max xe 0).toNat) ^ m from Int.pow_pos a)
    have p2 := clt (show 0 < ((10 : Int) ^ (max (-xe) 0).toNat) ^ m from Int.pow_pos b)
    generalize (xc * 10 ^ (max xe 0).toNat) ^ m = A at *
    generalize (10 ^ (max (-xe) 0).toNat) ^ m = B at *
    push_cast at p1 p2
    grind
  · rename_i hn
    refine ⟨Int.pow_pos a, Int.pow_pos b, ?_⟩
    obtain ⟨m, rfl⟩ : ∃ m : Nat, n = (m : Int) := ⟨n.toNat, by lia⟩
    rw [Rat.zpow_natCast, Int.toNat_natCast, ← frac_pow]
theorem tn_eq (ye : Int) : ((10 : Int) ^ (max (-ye) 0).toNat).toNat = dpTn ye := rfl
/-- the law's last two questions -/
theorem fin_low {xc xe yc ye p c e : Int} (h : DpPre xc xe yc ye p) (r : DpR xc xe yc ye p c e) :
    ((c - 1) * 10 ^ (max e 0).toNat) ^ ((10 : Int) ^ (max (-ye) 0).toNat).toNat * pwD xc xe (dpN yc ye) < pwN xc xe (dpN yc ye) * (10 ^ (max (-e) 0).toNat) ^ ((10 : Int) ^ (max (-ye) 0).toNat).toNat := by
  have w := pw_facts (xe := xe) (n := dpN yc ye) h.x1
  refine (cross_lt (Int.pow_pos (ten_pos _)) w.2.1).mpr ?_
  rw [w.2.2, frac_pow, tn_eq]
  have := (dp_main h r).2.1
  rw [Rat.intCast_sub]
  exact this
theorem fin_high {xc xe yc ye p c e : Int} (h : DpPre xc xe yc ye p) (r : DpR xc xe yc ye p c e) :
    pwN xc xe (dpN yc ye) * (10 ^ (max (-e) 0).toNat) ^ ((10 : Int) ^ (max (-ye) 0).toNat).toNat < ((c + 1) * 10 ^ (max e 0).toNat) ^ ((10 : Int) ^ (max (-ye) 0).toNat).toNat * pwD xc xe (dpN yc ye) := by
  have w := pw_facts (xe := xe) (n := dpN yc ye) h.x1
  refine (cross_lt w.2.1 (Int.pow_pos (ten_pos _))).mpr ?_
  rw [w.2.2, frac_pow, tn_eq]
  have := (dp_main h r).2.2
  rw [Rat.intCast_add]
  exact this
/-- near 1 the answer is not 1 -/
theorem fin_near {xc xe yc ye p c e : Int} (h : DpPre xc xe yc ye p) (r : DpR xc xe yc ye p c e)
    (n1 : (10 ^ (p + 2).toNat - 1) ^ ((10 : Int) ^ (max (-ye) 0).toNat).toNat * pwD xc xe (dpN yc ye) < pwN xc xe (dpN yc ye) * (10 ^ (p + 2).toNat) ^ ((10 : Int) ^ (max (-ye) 0).toNat).toNat)
    (n2 : pwN xc xe (dpN yc ye) * (10 ^ (p + 2).toNat) ^ ((10 : Int) ^ (max (-ye) 0).toNat).toNat < (10 ^ (p + 2).toNat + 1) ^ ((10 : Int) ^ (max (-ye) 0).toNat).toNat * pwD xc xe (dpN yc ye)) :
    c * 10 ^ (max e 0).toNat ≠ 10 ^ (max (-e) 0).toNat := by
  have p1 := h.p1
  have w := pw_facts (xe := xe) (n := dpN yc ye) h.x1
  have m1 := (cross_lt (Int.pow_pos (ten_pos _)) w.2.1).mp n1
  have m2 := (cross_lt w.2.1 (Int.pow_pos (ten_pos _))).mp n2
  rw [w.2.2, tn_eq, cpow, cpow, ← div_pow' (by have := clt (ten_pos (p + 2).toNat); push_cast at this ⊢; exact this)] at m1 m2
  have kp := z10 (p + 2)
  rw [Rat.intCast_sub, z10_nat (by lia)] at m1
  rw [Rat.intCast_add, z10_nat (by lia)] at m2
  push_cast at m1 m2
  have e1 : ((10 : Rat) ^ (p + 2) - 1) / 10 ^ (p + 2) = 1 - 1 / 10 ^ (p + 2) := by grind
  have e2 : ((10 : Rat) ^ (p + 2) + 1) / 10 ^ (p + 2) = 1 + 1 / 10 ^ (p + 2) := by grind
  rw [e1] at m1
  rw [e2] at m2
  have z := near_zero h m1 m2
  intro eq
  have f := frac_r c e
  rw [eq] at f
  have tp := clt (ten_pos (max (-e) 0).toNat)
  have one : (c : Rat) * 10 ^ e = 1 := by rw [← f]; push_cast at tp ⊢; grind
  rcases r with ⟨h0, hs, hc, he⟩ | ⟨h0, hs, hc, he⟩ | ⟨h0, hc, he⟩
  · rw [hc, he, Rat.intCast_add, z10_nat (by lia)] at one
    have q1 := z10_neg (p - 1)
    rw [show -(p - 1) = 1 - p by lia] at q1
    have q2 := z10 (1 - p)
    push_cast at one
    grind
  · rw [hc, he, Rat.intCast_sub, z10_nat (by lia)] at one
    have q1 := z10_neg p
    have q2 := z10 (-p)
    push_cast at one
    grind
  · exact h0 z
/-- the exponent's size -/
theorem exp_size {xc xe yc ye p c e : Int} (h : DpPre xc xe yc ye p) (r : DpR xc xe yc ye p c e) : (e.natAbs : Int) * 10 ^ (max (-ye) 0).toNat ≤ 1100000 := by
  have p1 := h.p1
  have p2 := h.p2
  have y1 := h.ye1
  have y2 := h.ye2
  have t3 : (10 : Int) ^ (max (-ye) 0).toNat ≤ 10 ^ 3 := ten_le (by lia)
  have e3 : (10 : Int) ^ 3 = 1000 := by decide
  have tp := ten_pos (max (-ye) 0).toNat
  have small : (e.natAbs : Int) ≤ 33 → (e.natAbs : Int) * 10 ^ (max (-ye) 0).toNat ≤ 1100000 := fun a => by
    have := Int.mul_le_mul a t3 (by lia) (by lia)
    lia
  rcases r with ⟨h0, hs, hc, he⟩ | ⟨h0, hs, hc, he⟩ | ⟨h0, hc, he⟩
  · exact small (by lia)
  · exact small (by lia)
  · have D := dp_dx h h0
    have n := dpn_facts h
    have pa := dpC_abs h
    have x := dxE_facts D
    have t := tenQ_lo (q := p + 1 + 2 + dxE (dpC xc xe yc ye p) p) (by lia) (by lia)
    have qb : ((dxQ (dpC xc xe yc ye p) p).natAbs : Int) ≤ 10 ^ ((dg (ab yc) : Int) + ye + 2).toNat + 2 := by
      unfold dxQ dxS dxT
      generalize dpC xc xe yc ye p = pc at *
      have e1 : (-(p + 1) + (p + 1 + 2 + dxE pc p)).toNat = (dxE pc p).toNat + 2 := by lia
      rw [e1]
      have T0 : 0 < tenQ (p + 1 + 2 + dxE pc p) := by have := ten_pos (p + 1 + 2 + dxE pc p).toNat; lia
      have fb := fdiv_b (a := pc * 10 ^ ((dxE pc p).toNat + 2)) T0
      have ea : (10 : Int) ^ (p + ((dg (ab yc) : Int) + ye) + 1 + 2).toNat * 10 ^ ((dxE pc p).toNat + 2) = 10 ^ (p + 1 + 2 + dxE pc p).toNat * 10 ^ ((dg (ab yc) : Int) + ye + 2).toNat := by
        rw [← ten_add, ← ten_add]; congr 1; lia
      have eb : (10 : Int) ^ ((dxE pc p).toNat + 2) ≤ 10 ^ (p + 1 + 2 + dxE pc p).toNat := ten_le (by lia)
      have q0 := ten_pos ((dxE pc p).toNat + 2)
      have g0 := ten_pos ((dg (ab yc) : Int) + ye + 2).toNat
      generalize tenQ (p + 1 + 2 + dxE pc p) = T at *
      generalize (10 : Int) ^ (p + 1 + 2 + dxE pc p).toNat = A at *
      generalize (10 : Int) ^ (p + ((dg (ab yc) : Int) + ye) + 1 + 2).toNat = G at *
      generalize (10 : Int) ^ ((dxE pc p).toNat + 2) = H at *
      generalize (10 : Int) ^ ((dg (ab yc) : Int) + ye + 2).toNat = B at *
      have m1 := Int.mul_le_mul_of_nonneg_right (show pc ≤ 2 * G + 1 by lia) (show 0 ≤ H by lia)
      have m2 := Int.mul_le_mul_of_nonneg_right (show -(2 * G + 1) ≤ pc by lia) (show 0 ≤ H by lia)
      have e5 : (2 * G + 1) * H = 2 * (G * H) + H := by grind
      have e6 : -(2 * G + 1) * H = -(2 * (G * H) + H) := by grind
      rw [e5] at m1
      rw [e6] at m2
      rw [ea] at m1 m2
      have m3 := Int.mul_le_mul_of_nonneg_right t.1 (show 0 ≤ B by lia)
      have e7 : 2 * A * B = 2 * (A * B) := by grind
      rw [e7] at m3
      generalize pc * H = S at *
      generalize S.fdiv T = q at *
      have z1 : q ≤ B + 2 := by
        rcases Int.lt_or_le (B + 2) q with y | y
        · exfalso
          have m := Int.mul_le_mul_of_nonneg_left (show B + 3 ≤ q by lia) (show 0 ≤ T by lia)
          rw [Int.mul_add] at m
          have : T * B = T * B := rfl
          have m4 : 2 * (A * B) ≤ T * B := m3
          lia
        · exact y
      have z2 : -(B + 2) ≤ q := by
        rcases Int.lt_or_le q (-(B + 2)) with y | y
        · exfalso
          have m := Int.mul_le_mul_of_nonneg_left (show q ≤ -B - 3 by lia) (show 0 ≤ T by lia)
          rw [Int.mul_sub, Int.mul_neg] at m
          lia
        · exact y
      lia
    have eb : (e.natAbs : Int) ≤ 10 ^ ((dg (ab yc) : Int) + ye + 2).toNat + 33 := by lia
    have m := Int.mul_le_mul_of_nonneg_right eb (show 0 ≤ (10 : Int) ^ (max (-ye) 0).toNat by lia)
    rw [Int.add_mul, ← ten_add] at m
    have : (10 : Int) ^ (((dg (ab yc) : Int) + ye + 2).toNat + (max (-ye) 0).toNat) ≤ 10 ^ 6 := ten_le (by lia)
    have e6 : (10 : Int) ^ 6 = 1000000 := by decide
    lia
end Mine

section
open PySem PySem.W PyProof.Rows
namespace Mine
theorem six_of {ys : List Value} {w : List Int} (h : IntsAre ys (List.map (fun k' => cellAt w k' 0) (rangeKs 0 ((6 : Int) - 0).toNat))) :
    ∃ (a b m j g n : Int) (t1 t2 t3 t4 t5 t6 : Tok), ys = [Value.int a t1, Value.int b t2, Value.int m t3, Value.int j t4, Value.int g t5, Value.int n t6] := by
  have e : rangeKs 0 ((6 : Int) - 0).toNat = [0, 1, 2, 3, 4, 5] := by decide
  rw [e] at h
  simp only [List.map_cons, List.map_nil] at h
  generalize cellAt w 0 0 = a at h
  generalize cellAt w 1 0 = b at h
  generalize cellAt w 2 0 = m at h
  generalize cellAt w 3 0 = j at h
  generalize cellAt w 4 0 = g at h
  generalize cellAt w 5 0 = n at h
  cases h with | cons _ _ h => cases h with | cons _ _ h => cases h with | cons _ _ h => cases h with | cons _ _ h => cases h with | cons _ _ h => cases h with | cons _ _ h => cases h; exact ⟨_, _, _, _, _, _, _, _, _, _, _, _, rfl⟩
/-- the law's x -/
structure DomX (xc xe : Int) : Prop where
  x1 : 1 ≤ xc
  x2 : xc < 10 ^ 31
  e1 : -30 ≤ xe
  e2 : xe ≤ 30
  ne : ¬ (xe ≤ 0 ∧ xc = 10 ^ (-xe).toNat)
theorem mk_dp {xc xe yc ye p : Int} (D : DomX xc xe) (y0 : yc ≠ 0) (yb : (yc.natAbs : Int) ≤ 10 ^ (3 - max ye 0).toNat) (e1 : -3 ≤ ye) (e2 : ye ≤ 2) (p1 : 1 ≤ p) (p2 : p ≤ 30) : DpPre xc xe yc ye p :=
  ⟨D.x1, D.x2, D.e1, D.e2, D.ne, y0, yb, e1, e2, p1, p2⟩
theorem p30 : (10 : Int) ^ 30 = 1000000000000000000000000000000 := by decide
theorem p31 : (10 : Int) ^ 31 = 10000000000000000000000000000000 := by decide
theorem dom_a {xc xe : Int} (h1 : 1 ≤ xc) (h2 : xc ≤ 10 ^ 30) (e1 : -30 ≤ xe) (e2 : xe ≤ 30) (ne : ¬ (xe ≤ 0 ∧ xc = 10 ^ (-xe).toNat)) : DomX xc xe :=
  ⟨h1, by rw [p30] at h2; rw [p31]; lia, e1, e2, ne⟩
theorem dom_b {xc xe : Int} (h1 : 1 ≤ xc) (h2 : xc ≤ 10 ^ 30) (e1 : -30 ≤ xe) (e2 : xe ≤ 30) (eq : xc = 10 ^ (-xe).toNat) : DomX (xc + 1) xe :=
  ⟨by lia, by rw [p30] at h2; rw [p31]; lia, e1, e2, by lia⟩
theorem dom_c {xe r : Int} (r1 : 0 ≤ r) (r2 : r ≤ 999) (e1 : -30 ≤ xe) (e2 : xe ≤ -4) : DomX (10 ^ (-xe).toNat + (1 + r) * 1) xe := by
  have a : (10 : Int) ^ (-xe).toNat ≤ 10 ^ 30 := ten_le (by lia)
  have b := ten_pos (-xe).toNat
  rw [p30] at a
  exact ⟨by lia, by rw [p31]; lia, e1, by lia, by lia⟩
theorem dom_d {xe r : Int} (r1 : 0 ≤ r) (r2 : r ≤ 999) (e1 : -30 ≤ xe) (e2 : xe ≤ -4) : DomX (10 ^ (-xe).toNat + (1 + r) * -1) xe := by
  have a : (10 : Int) ^ (-xe).toNat ≤ 10 ^ 30 := ten_le (by lia)
  have b : (10 : Int) ^ 4 ≤ 10 ^ (-xe).toNat := ten_le (by lia)
  have e : (10 : Int) ^ 4 = 10000 := by decide
  rw [p30] at a
  exact ⟨by lia, by rw [p31]; lia, e1, by lia, by lia⟩
section
variable {prog : Program} {w : World} {A : Around} {E : Value → Shared → Prop} {s : Shared} {t u : Tok} {Q : Value → Shared → Prop} {h₀ : Heap} {L : Addr} {m : Str → Option Value} {news : List (Addr × Obj)}
theorem max_r {a b : Int} (hh : A.handled = none) (F : Fr h₀ L s.heap m) (N : News h₀ L s.heap news) (h : ∀ t' h' tk, Fr h₀ L h' m → News h₀ L h' news → Q (.int (max a b) t') { s with heap := h', toks := tk }) :
    wpAny (model prog w) A (call (.builtin "max") [.int a t, .int b u]) Q E s :=
  max_two_N hh F N fun h' tk F' N' => by
    have e : (if b > a then b else a) = max a b := by lia
    rw [e]; exact h _ _ _ F' N'
theorem ye_sub {j : Int} (h : ∀ y : Int, -3 ≤ y → y ≤ 2 → Q (.int y s.toks) { s with toks := s.toks + 1 }) : wpAny (model prog w) A (binaryOp .Sub (.int (j.fmod 6) t) (.int 3 u)) Q E s := by
  have a := Int.fmod_nonneg_of_pos j (b := 6) (by decide)
  have b := Int.fmod_lt_of_pos j (b := 6) (by decide)
  exact PyProof.Rows.sub_int (h _ (by lia) (by lia))
theorem xe_sub {j : Int} (h : ∀ y : Int, -30 ≤ y → y ≤ 30 → Q (.int y s.toks) { s with toks := s.toks + 1 }) : wpAny (model prog w) A (binaryOp .Sub (.int (j.fmod 61) t) (.int 30 u)) Q E s := by
  have a := Int.fmod_nonneg_of_pos j (b := 61) (by decide)
  have b := Int.fmod_lt_of_pos j (b := 61) (by decide)
  exact PyProof.Rows.sub_int (h _ (by lia) (by lia))
theorem xe_sub2 {j : Int} (h : ∀ y : Int, -30 ≤ y → y ≤ -4 → Q (.int y s.toks) { s with toks := s.toks + 1 }) : wpAny (model prog w) A (binaryOp .Sub (.int (-4) t) (.int (j.fmod 27) u)) Q E s := by
  have a := Int.fmod_nonneg_of_pos j (b := 27) (by decide)
  have b := Int.fmod_lt_of_pos j (b := 27) (by decide)
  exact PyProof.Rows.sub_int (h _ (by lia) (by lia))
theorem xc_add {j : Int} (h : ∀ y : Int, 1 ≤ y → y ≤ 10 ^ 30 → Q (.int y s.toks) { s with toks := s.toks + 1 }) : wpAny (model prog w) A (binaryOp .Add (.int 1 t) (.int (j.fmod (10 ^ Int.toNat 30)) u)) Q E s := by
  have p : (0 : Int) < 10 ^ Int.toNat 30 := ten_pos _
  have a := Int.fmod_nonneg_of_pos j p
  have b := Int.fmod_lt_of_pos j p
  have e : (10 : Int) ^ Int.toNat 30 = 10 ^ 30 := rfl
  exact PyProof.Rows.add_int (h _ (by lia) (by lia))
theorem r_add {j : Int} (h : ∀ r : Int, 0 ≤ r → r ≤ 999 → Q (.int (1 + r) s.toks) { s with toks := s.toks + 1 }) : wpAny (model prog w) A (binaryOp .Add (.int 1 t) (.int (j.fmod 1000) u)) Q E s := by
  have a := Int.fmod_nonneg_of_pos j (b := 1000) (by decide)
  have b := Int.fmod_lt_of_pos j (b := 1000) (by decide)
  exact PyProof.Rows.add_int (h _ (by lia) (by lia))
theorem p_add {j : Int} (h : ∀ y : Int, 1 ≤ y → y ≤ 30 → Q (.int y s.toks) { s with toks := s.toks + 1 }) : wpAny (model prog w) A (binaryOp .Add (.int 1 t) (.int (j.fmod 30) u)) Q E s := by
  have a := Int.fmod_nonneg_of_pos j (b := 30) (by decide)
  have b := Int.fmod_lt_of_pos j (b := 30) (by decide)
  exact PyProof.Rows.add_int (h _ (by lia) (by lia))
theorem y_add {j ye : Int} (h : ∀ y : Int, 1 ≤ y → y ≤ 10 ^ (3 - max ye 0).toNat → Q (.int y s.toks) { s with toks := s.toks + 1 }) : wpAny (model prog w) A (binaryOp .Add (.int 1 t) (.int (j.fmod (10 ^ (3 - max ye 0).toNat)) u)) Q E s := by
  have p : (0 : Int) < 10 ^ (3 - max ye 0).toNat := ten_pos _
  have a := Int.fmod_nonneg_of_pos j p
  have b := Int.fmod_lt_of_pos j p
  exact PyProof.Rows.add_int (h _ (by lia) (by lia))
theorem mod_ten {j : Int} {k : Nat} (h : Q (.int (j.fmod (10 ^ k)) s.toks) { s with toks := s.toks + 1 }) : wpAny (model prog w) A (binaryOp .Mod (.int j t) (.int (10 ^ k) u)) Q E s := by
  refine mod_int' ?_ h
  have := ten_pos k
  lia
end
structure Joined : Prop where
/-- the ways of the first if meet -/
noncomputable def JoinX (h₀ : Heap) (L : Addr) (m : Str → Option Value) (news : List (Addr × Obj)) (s : Shared) (f : Flow) (s' : Shared) : Prop :=
  f = .next ∧ ∃ (xc xe : Int) (t u : Tok) (h' : Heap) (tk : Nat), s' = { s with heap := h', toks := tk } ∧ DomX xc xe ∧ Fr h₀ L h' (fun y => if y = Str.ofString "xc" then some (.int xc t) else if y = Str.ofString "xe" then some (.int xe u) else m y) ∧ News h₀ L h' news
theorem join_x {M : Model} {A : Around} {T : Sem Flow} {E : Value → Shared → Prop} {s : Shared} {Q : Flow → Shared → Prop} {h₀ : Heap} {L : Addr} {m : Str → Option Value} {news : List (Addr × Obj)} (_F : Fr h₀ L s.heap m) (_N : News h₀ L s.heap news)
    (a : Joined → wpAny M A T (JoinX h₀ L m news s) E s)
    (b : ∀ (xc xe : Int) (t u : Tok) (h' : Heap) (tk : Nat), DomX xc xe → Fr h₀ L h' (fun y => if y = Str.ofString "xc" then some (.int xc t) else if y = Str.ofString "xe" then some (.int xe u) else m y) → News h₀ L h' news → Q .next { s with heap := h', toks := tk }) : wpAny M A T Q E s :=
  wpAny_mono (a Joined.mk) (fun f s' ⟨e, xc, xe, t, u, h', tk, e2, D, F, N⟩ => by subst e e2; exact b xc xe t u h' tk D F N) fun _ _ x => x
theorem join_end {h₀ : Heap} {L : Addr} {m m' : Str → Option Value} {news news' : List (Addr × Obj)} {s : Shared} {xc xe : Int} {t u : Tok} {h' : Heap} {tk : Nat} (F : Fr h₀ L h' m') (N : News h₀ L h' news')
    (hx : m' (Str.ofString "xc") = some (.int xc t)) (he : m' (Str.ofString "xe") = some (.int xe u)) (hr : ∀ y, y ≠ Str.ofString "xc" → y ≠ Str.ofString "xe" → m' y = m y) (hn : ∀ p ∈ news, p ∈ news') (D : DomX xc xe) : JoinX h₀ L m news s .next { s with heap := h', toks := tk } := by
  refine ⟨rfl, xc, xe, t, u, h', tk, rfl, D, ?_, fun p hp => N p (hn p hp)⟩
  have e : m' = (fun y => if y = Str.ofString "xc" then some (.int xc t) else if y = Str.ofString "xe" then some (.int xe u) else m y) := by
    funext y
    by_cases h1 : y = Str.ofString "xc"
    · rw [if_pos h1, h1]; exact hx
    · rw [if_neg h1]
      by_cases h2 : y = Str.ofString "xe"
      · rw [if_pos h2, h2]; exact he
      · rw [if_neg h2]; exact hr y h1 h2
  exact e ▸ F
/-- the ways of «if m < 0» meet -/
noncomputable def JoinY (h₀ : Heap) (L : Addr) (m : Str → Option Value) (news : List (Addr × Obj)) (ye : Int) (s : Shared) (f : Flow) (s' : Shared) : Prop :=
  f = .next ∧ ∃ (yc : Int) (t : Tok) (h' : Heap) (tk : Nat), s' = { s with heap := h', toks := tk } ∧ (yc ≠ 0 ∧ (yc.natAbs : Int) ≤ 10 ^ (3 - max ye 0).toNat) ∧ Fr h₀ L h' (fun y => if y = Str.ofString "yc" then some (.int yc t) else m y) ∧ News h₀ L h' news
structure JoinedY : Prop where
theorem join_y {M : Model} {A : Around} {T : Sem Flow} {E : Value → Shared → Prop} {s : Shared} {Q : Flow → Shared → Prop} {h₀ : Heap} {L : Addr} {m : Str → Option Value} {news : List (Addr × Obj)} {y ye : Int} (_h : y ≤ 10 ^ (3 - max ye 0).toNat) (_F : Fr h₀ L s.heap m) (_N : News h₀ L s.heap news)
    (a : JoinedY → wpAny M A T (JoinY h₀ L m news ye s) E s)
    (b : ∀ (yc : Int) (t : Tok) (h' : Heap) (tk : Nat), yc ≠ 0 → (yc.natAbs : Int) ≤ 10 ^ (3 - max ye 0).toNat → Fr h₀ L h' (fun y => if y = Str.ofString "yc" then some (.int yc t) else m y) → News h₀ L h' news → Q .next { s with heap := h', toks := tk }) : wpAny M A T Q E s :=
  wpAny_mono (a JoinedY.mk) (fun f s' ⟨e, yc, t, h', tk, e2, D, F, N⟩ => by subst e e2; exact b yc t h' tk D.1 D.2 F N) fun _ _ x => x
theorem join_endY {h₀ : Heap} {L : Addr} {m m' : Str → Option Value} {news news' : List (Addr × Obj)} {s : Shared} {yc ye : Int} {t : Tok} {h' : Heap} {tk : Nat} (F : Fr h₀ L h' m') (N : News h₀ L h' news')
    (hx : m' (Str.ofString "yc") = some (.int yc t)) (hr : ∀ y, y ≠ Str.ofString "yc" → m' y = m y) (hn : ∀ p ∈ news, p ∈ news') (y0 : yc ≠ 0) (yb : (yc.natAbs : Int) ≤ 10 ^ (3 - max ye 0).toNat) : JoinY h₀ L m news ye s .next { s with heap := h', toks := tk } := by
  refine ⟨rfl, yc, t, h', tk, rfl, ⟨y0, yb⟩, ?_, fun p hp => N p (hn p hp)⟩
  have e : m' = (fun y => if y = Str.ofString "yc" then some (.int yc t) else m y) := by
    funext y
    by_cases h1 : y = Str.ofString "yc"
    · rw [if_pos h1, h1]; exact hx
    · rw [if_neg h1]; exact hr y h1
  exact e ▸ F
theorem dp_pre_of {xc xe yc ye p c e : Int} (_r : DpR xc xe yc ye p c e) (D : DomX xc xe) (y0 : yc ≠ 0) (yb : (yc.natAbs : Int) ≤ 10 ^ (3 - max ye 0).toNat) (e1 : -3 ≤ ye) (e2 : ye ≤ 2) (p1 : 1 ≤ p) (p2 : p ≤ 30) : DpPre xc xe yc ye p :=
  mk_dp D y0 yb e1 e2 p1 p2
/-- the facts that the walk behind _dpower asks -/
structure Aft (xc xe yc ye p c e : Int) : Prop where
  pre : DpPre xc xe yc ye p
  rel : DpR xc xe yc ye p c e
theorem Aft.facts {xc xe yc ye p c e : Int} (h : Aft xc xe yc ye p c e) : 10 ^ (p - 1).toNat ≤ c ∧ c ≤ 10 ^ p.toNat ∧ -1100000 ≤ e ∧ e ≤ 1100000 ∧ 0 < (10 : Int) ^ (max (-ye) 0).toNat ∧ -30 ≤ xe ∧ xe ≤ 30 := by
  have a := (dp_main h.pre h.rel).1
  have b := exp_size h.pre h.rel
  have t := ten_pos (max (-ye) 0).toNat
  have m := Int.mul_le_mul_of_nonneg_left (show 1 ≤ (10 : Int) ^ (max (-ye) 0).toNat by lia) (show 0 ≤ (e.natAbs : Int) by lia)
  exact ⟨a.1, a.2, by lia, by lia, t, h.pre.e1, h.pre.e2⟩
theorem Aft.cb {xc xe yc ye p c e : Int} (h : Aft xc xe yc ye p c e) : 1 ≤ c ∧ c ≤ 10 ^ 30 := by
  have f := h.facts
  have := ten_pos (p - 1).toNat
  have : (10 : Int) ^ p.toNat ≤ 10 ^ 30 := ten_le (by have := h.pre.p2; lia)
  lia
theorem Aft.bc {xc xe yc ye p c e : Int} (h : Aft xc xe yc ye p c e) : Builtin.Int.intBits c ≤ 140 := by
  have := h.cb
  have : (10 : Int) ^ 30 ≤ 10 ^ 40 := ten_le (by decide)
  exact bits40 (by lia) (by lia)
theorem Aft.bc1 {xc xe yc ye p c e : Int} (h : Aft xc xe yc ye p c e) : Builtin.Int.intBits (c - 1) ≤ 140 := by
  have := h.cb
  have : (10 : Int) ^ 30 ≤ 10 ^ 40 := ten_le (by decide)
  exact bits40 (by lia) (by lia)
theorem Aft.bc2 {xc xe yc ye p c e : Int} (h : Aft xc xe yc ye p c e) : Builtin.Int.intBits (c + 1) ≤ 140 := by
  have := h.cb
  have : (10 : Int) ^ 30 + 1 ≤ 10 ^ 40 := by decide
  exact bits40 (by lia) (by lia)
theorem bits_tenL (k : Int) : Builtin.Int.intBits (10 ^ k.toNat) ≤ 4 * k.toNat + 1 := PySem.intBits_pow_le (m := 4) (PySem.intBits_le_iff.mpr (by decide)) k.toNat
theorem bits_big {k : Int} (h : k ≤ 1100000) : Builtin.Int.intBits (10 ^ k.toNat) ≤ 4400001 := by
  have := bits_tenL k
  lia
theorem pow10_big {k : Int} (h : k ≤ 1100000) : (Builtin.Int.intBits 10 : Int) * k ≤ 2 ^ 27 := by
  have e : Builtin.Int.intBits 10 = 4 := by decide +kernel
  have e2 : (2 : Int) ^ 27 = 134217728 := by decide
  rw [e, e2]; lia
theorem pow_ok {a k : Int} {m : Nat} (ha : Builtin.Int.intBits a ≤ m) (hk0 : 0 ≤ k) (hk : k ≤ 1000) (hm : m ≤ 10000) : (Builtin.Int.intBits a : Int) * k ≤ 2 ^ 27 := by
  have e2 : (2 : Int) ^ 27 = 134217728 := by decide
  have := Int.mul_le_mul (show (Builtin.Int.intBits a : Int) ≤ 10000 by lia) hk (by lia) (by lia)
  lia
theorem bits_pow {a k : Int} {m : Nat} (ha : Builtin.Int.intBits a ≤ m) (hk : k ≤ 1000) (hm : m ≤ 10000) : Builtin.Int.intBits (a ^ k.toNat) ≤ 10000001 := by
  have := PySem.intBits_pow_le ha k.toNat
  have := Nat.mul_le_mul hm (show k.toNat ≤ 1000 by lia)
  lia
theorem Aft.tb {xc xe yc ye p c e : Int} (h : Aft xc xe yc ye p c e) : 0 ≤ (10 : Int) ^ (max (-ye) 0).toNat ∧ (10 : Int) ^ (max (-ye) 0).toNat ≤ 1000 := by
  have t := ten_pos (max (-ye) 0).toNat
  have : (10 : Int) ^ (max (-ye) 0).toNat ≤ 10 ^ 3 := ten_le (by have := h.pre.ye1; lia)
  have e : (10 : Int) ^ 3 = 1000 := by decide
  lia
theorem Aft.nb {xc xe yc ye p c e : Int} (h : Aft xc xe yc ye p c e) : yc * 10 ^ (max ye 0).toNat ≤ 1000 ∧ -(yc * 10 ^ (max ye 0).toNat) ≤ 1000 := by
  have y1 := h.pre.ye1
  have y2 := h.pre.ye2
  have t := ten_pos (max ye 0).toNat
  have m := Int.mul_le_mul_of_nonneg_right h.pre.yb (show 0 ≤ (10 : Int) ^ (max ye 0).toNat by lia)
  rw [← ten_add] at m
  have : (10 : Int) ^ ((3 - max ye 0).toNat + (max ye 0).toNat) ≤ 10 ^ 3 := ten_le (by lia)
  have e : (10 : Int) ^ 3 = 1000 := by decide
  have a1 := Int.mul_le_mul_of_nonneg_right (show yc ≤ (yc.natAbs : Int) by lia) (show 0 ≤ (10 : Int) ^ (max ye 0).toNat by lia)
  have a2 := Int.mul_le_mul_of_nonneg_right (show -yc ≤ (yc.natAbs : Int) by lia) (show 0 ≤ (10 : Int) ^ (max ye 0).toNat by lia)
  rw [Int.neg_mul] at a2
  lia
theorem Aft.by1 {xc xe yc ye p c e : Int} (h : Aft xc xe yc ye p c e) : Builtin.Int.intBits yc ≤ 20 := bits_dpy h.pre
theorem Aft.bx {xc xe yc ye p c e : Int} (h : Aft xc xe yc ye p c e) : Builtin.Int.intBits xc ≤ 140 := bits_dpx h.pre
/-- the fraction's parts -/
theorem Aft.bf1 {xc xe yc ye p c e : Int} (h : Aft xc xe yc ye p c e) : Builtin.Int.intBits (xc * 10 ^ (max xe 0).toNat) ≤ 4200 :=
  Nat.le_trans (PyProof.Rows.bits_mul h.bx (bits_ten (k := max xe 0) (by have := h.pre.e2; lia))) (by decide)
theorem Aft.bf2 {xc xe yc ye p c e : Int} (h : Aft xc xe yc ye p c e) : Builtin.Int.intBits ((10 : Int) ^ (max (-xe) 0).toNat) ≤ 4200 :=
  Nat.le_trans (bits_ten (by have := h.pre.e1; lia)) (by decide)
theorem Aft.bfi {xc xe yc ye p c e : Int} (h : Aft xc xe yc ye p c e) : Builtin.Int.intBits ((10 : Int) ^ (p + 2).toNat) ≤ 4200 ∧ Builtin.Int.intBits ((10 : Int) ^ (p + 2).toNat - 1) ≤ 4200 ∧ Builtin.Int.intBits ((10 : Int) ^ (p + 2).toNat + 1) ≤ 4200 := by
  have p1 := h.pre.p1
  have p2 := h.pre.p2
  have : (10 : Int) ^ (p + 2).toNat ≤ 10 ^ 32 := ten_le (by lia)
  have t := ten_pos (p + 2).toNat
  have e : (10 : Int) ^ 32 + 1 ≤ 10 ^ 40 := by decide
  exact ⟨Nat.le_trans (bits40 (by lia) (by lia)) (by decide), Nat.le_trans (bits40 (by lia) (by lia)) (by decide), Nat.le_trans (bits40 (by lia) (by lia)) (by decide)⟩
/-- the answer's parts raised -/
theorem Aft.big {xc xe yc ye p c e a k : Int} (h : Aft xc xe yc ye p c e) (ha : Builtin.Int.intBits a ≤ 140) (hk : k = max e 0 ∨ k = max (-e) 0) :
    (Builtin.Int.intBits (a * 10 ^ k.toNat) : Int) * 10 ^ (max (-ye) 0).toNat ≤ 5000000 := by
  have s := exp_size h.pre h.rel
  have t := h.tb
  have b := PyProof.Rows.bits_mul ha (bits_tenL k)
  have k1 : (k.toNat : Int) ≤ e.natAbs := by lia
  have m := Int.mul_le_mul_of_nonneg_right (show (Builtin.Int.intBits (a * 10 ^ k.toNat) : Int) ≤ 141 + 4 * e.natAbs by lia) t.1
  rw [Int.add_mul, Int.mul_assoc] at m
  lia
theorem Aft.pw1 {xc xe yc ye p c e a k : Int} (h : Aft xc xe yc ye p c e) (ha : Builtin.Int.intBits a ≤ 140) (hk : k = max e 0 ∨ k = max (-e) 0) :
    (Builtin.Int.intBits (a * 10 ^ k.toNat) : Int) * 10 ^ (max (-ye) 0).toNat ≤ 2 ^ 27 := by
  have := h.big ha hk
  have e2 : (2 : Int) ^ 27 = 134217728 := by decide
  lia
theorem Aft.pw2 {xc xe yc ye p c e k : Int} (h : Aft xc xe yc ye p c e) (hk : k = max e 0 ∨ k = max (-e) 0) :
    (Builtin.Int.intBits ((10 : Int) ^ k.toNat) : Int) * 10 ^ (max (-ye) 0).toNat ≤ 2 ^ 27 := by
  have := h.pw1 (a := 1) (by rw [PySem.intBits_le_iff]; decide) hk
  rwa [Int.one_mul] at this
theorem Aft.rb1 {xc xe yc ye p c e a k : Int} (h : Aft xc xe yc ye p c e) (ha : Builtin.Int.intBits a ≤ 140) (hk : k = max e 0 ∨ k = max (-e) 0) :
    Builtin.Int.intBits ((a * 10 ^ k.toNat) ^ ((10 : Int) ^ (max (-ye) 0).toNat).toNat) ≤ 10000001 := by
  have b := h.big ha hk
  have t := h.tb
  have q := PySem.intBits_pow_le (Nat.le_refl (Builtin.Int.intBits (a * 10 ^ k.toNat))) ((10 : Int) ^ (max (-ye) 0).toNat).toNat
  generalize Builtin.Int.intBits (a * 10 ^ k.toNat) = n at *
  have e : ((n * ((10 : Int) ^ (max (-ye) 0).toNat).toNat : Nat) : Int) = (n : Int) * 10 ^ (max (-ye) 0).toNat := by
    push_cast
    congr 1
  lia
theorem Aft.rb2 {xc xe yc ye p c e k : Int} (h : Aft xc xe yc ye p c e) (hk : k = max e 0 ∨ k = max (-e) 0) :
    Builtin.Int.intBits (((10 : Int) ^ k.toNat) ^ ((10 : Int) ^ (max (-ye) 0).toNat).toNat) ≤ 10000001 := by
  have := h.rb1 (a := 1) (by rw [PySem.intBits_le_iff]; decide) hk
  rwa [Int.one_mul] at this
/-- the power as the law holds it -/
noncomputable def PwR (xc xe n a b : Int) : Prop := a = pwN xc xe n ∧ b = pwD xc xe n
theorem pw_rn {xc xe n : Int} (hn : n < 0) : PwR xc xe n ((10 ^ (max (-xe) 0).toNat) ^ (-n).toNat) ((xc * 10 ^ (max xe 0).toNat) ^ (-n).toNat) := by
  unfold PwR pwN pwD; rw [if_pos hn, if_pos hn]; exact ⟨rfl, rfl⟩
theorem pw_rp {xc xe n : Int} (hn : ¬ n < 0) : PwR xc xe n ((xc * 10 ^ (max xe 0).toNat) ^ n.toNat) ((10 ^ (max (-xe) 0).toNat) ^ n.toNat) := by
  unfold PwR pwN pwD; rw [if_neg hn, if_neg hn]; exact ⟨rfl, rfl⟩
theorem Aft.pb {xc xe yc ye p c e a b : Int} (h : Aft xc xe yc ye p c e) (r : PwR xc xe (yc * 10 ^ (max ye 0).toNat) a b) : Builtin.Int.intBits a ≤ 10000001 ∧ Builtin.Int.intBits b ≤ 10000001 := by
  obtain ⟨ea, eb⟩ := r
  unfold pwN at ea
  unfold pwD at eb
  by_cases hn : yc * 10 ^ (max ye 0).toNat < 0
  · rw [if_pos hn] at ea eb
    subst ea eb
    exact ⟨bits_pow h.bf2 h.nb.2 (by decide), bits_pow h.bf1 h.nb.2 (by decide)⟩
  · rw [if_neg hn] at ea eb
    subst ea eb
    exact ⟨bits_pow h.bf1 h.nb.1 (by decide), bits_pow h.bf2 h.nb.1 (by decide)⟩
theorem z_near {xc xe yc ye p c e a b : Int} (h : Aft xc xe yc ye p c e) (r : PwR xc xe (yc * 10 ^ (max ye 0).toNat) a b) (eq : c * 10 ^ (max e 0).toNat = 10 ^ (max (-e) 0).toNat)
    (n1 : (10 ^ (p + 2).toNat - 1) ^ ((10 : Int) ^ (max (-ye) 0).toNat).toNat * b < a * (10 ^ (p + 2).toNat) ^ ((10 : Int) ^ (max (-ye) 0).toNat).toNat)
    (n2 : a * (10 ^ (p + 2).toNat) ^ ((10 : Int) ^ (max (-ye) 0).toNat).toNat < (10 ^ (p + 2).toNat + 1) ^ ((10 : Int) ^ (max (-ye) 0).toNat).toNat * b) : False := by
  obtain ⟨ea, eb⟩ := r
  subst ea eb
  exact fin_near h.pre h.rel n1 n2 eq
theorem z_low {xc xe yc ye p c e a b : Int} (h : Aft xc xe yc ye p c e) (r : PwR xc xe (yc * 10 ^ (max ye 0).toNat) a b) : ((c - 1) * 10 ^ (max e 0).toNat) ^ ((10 : Int) ^ (max (-ye) 0).toNat).toNat * b < a * (10 ^ (max (-e) 0).toNat) ^ ((10 : Int) ^ (max (-ye) 0).toNat).toNat := by
  obtain ⟨ea, eb⟩ := r
  subst ea eb
  exact fin_low h.pre h.rel
theorem z_high {xc xe yc ye p c e a b : Int} (h : Aft xc xe yc ye p c e) (r : PwR xc xe (yc * 10 ^ (max ye 0).toNat) a b) : a * (10 ^ (max (-e) 0).toNat) ^ ((10 : Int) ^ (max (-ye) 0).toNat).toNat < ((c + 1) * 10 ^ (max e 0).toNat) ^ ((10 : Int) ^ (max (-ye) 0).toNat).toNat * b := by
  obtain ⟨ea, eb⟩ := r
  subst ea eb
  exact fin_high h.pre h.rel
/-- the two ways of raising meet -/
noncomputable def JoinP (h₀ : Heap) (L : Addr) (m : Str → Option Value) (news : List (Addr × Obj)) (xc xe n : Int) (s : Shared) (f : Flow) (s' : Shared) : Prop :=
  f = .next ∧ ∃ (D : Addr) (a b : Int) (t u : Tok) (k : Nat) (h' : Heap) (tk : Nat), s' = { s with heap := h', toks := tk } ∧ PwR xc xe n a b ∧ Fr h₀ L h' (fun y => if y = Str.ofString "power" then some (.ref D) else m y) ∧ News h₀ L h' ((D, ({ cls := .type "tuple", data := .seq #[.int a t, .int b u] k } : Obj)) :: news)
structure JoinedP : Prop where
theorem join_p {M : Model} {A : Around} {T : Sem Flow} {E : Value → Shared → Prop} {s : Shared} {Q : Flow → Shared → Prop} {h₀ : Heap} {L : Addr} {m : Str → Option Value} {news : List (Addr × Obj)} {xc xe yc ye p c e : Int} (_h : Aft xc xe yc ye p c e) (_F : Fr h₀ L s.heap m) (_N : News h₀ L s.heap news)
    (a : JoinedP → wpAny M A T (JoinP h₀ L m news xc xe (yc * 10 ^ (max ye 0).toNat) s) E s)
    (b : ∀ (D : Addr) (a b : Int) (t u : Tok) (k : Nat) (h' : Heap) (tk : Nat), PwR xc xe (yc * 10 ^ (max ye 0).toNat) a b → Fr h₀ L h' (fun y => if y = Str.ofString "power" then some (.ref D) else m y) → News h₀ L h' ((D, ({ cls := .type "tuple", data := .seq #[.int a t, .int b u] k } : Obj)) :: news) → Q .next { s with heap := h', toks := tk }) : wpAny M A T Q E s :=
  wpAny_mono (a JoinedP.mk) (fun f s' ⟨e, D, v, v', t, u, k, h', tk, e2, R, F, N⟩ => by subst e e2; exact b D v v' t u k h' tk R F N) fun _ _ x => x
theorem join_endP {h₀ : Heap} {L : Addr} {m : Str → Option Value} {news news' : List (Addr × Obj)} {xc xe n : Int} {s : Shared} {D : Addr} {a b : Int} {t u : Tok} {k : Nat} {h' : Heap} {tk : Nat} (F : Fr h₀ L h' (fun y => if y = Str.ofString "power" then some (.ref D) else m y)) (N : News h₀ L h' news')
    (hd : (D, ({ cls := .type "tuple", data := .seq #[.int a t, .int b u] k } : Obj)) ∈ news') (hn : ∀ p ∈ news, p ∈ news') (R : PwR xc xe n a b) : JoinP h₀ L m news xc xe n s .next { s with heap := h', toks := tk } :=
  ⟨rfl, D, a, b, t, u, k, h', tk, rfl, R, F, fun p hp => by
    rcases List.mem_cons.mp hp with rfl | hp
    · exact N _ hd
    · exact N _ (hn p hp)⟩
/-- the ways of the test near 1 meet -/
noncomputable def JoinZ (h₀ : Heap) (L : Addr) (m : Str → Option Value) (news : List (Addr × Obj)) (s : Shared) (f : Flow) (s' : Shared) : Prop :=
  f = .next ∧ ∃ (h' : Heap) (tk : Nat), s' = { s with heap := h', toks := tk } ∧ Fr h₀ L h' m ∧ News h₀ L h' news
structure JoinedZ : Prop where
theorem join_z {M : Model} {A : Around} {T : Sem Flow} {E : Value → Shared → Prop} {s : Shared} {Q : Flow → Shared → Prop} {h₀ : Heap} {L : Addr} {m : Str → Option Value} {news : List (Addr × Obj)} (_F : Fr h₀ L s.heap m) (_N : News h₀ L s.heap news)
    (a : JoinedZ → wpAny M A T (JoinZ h₀ L m news s) E s)
    (b : ∀ (h' : Heap) (tk : Nat), Fr h₀ L h' m → News h₀ L h' news → Q .next { s with heap := h', toks := tk }) : wpAny M A T Q E s :=
  wpAny_mono (a JoinedZ.mk) (fun f s' ⟨e, h', tk, e2, F, N⟩ => by subst e e2; exact b h' tk F N) fun _ _ x => x
theorem join_endZ {h₀ : Heap} {L : Addr} {m : Str → Option Value} {news news' : List (Addr × Obj)} {s : Shared} {h' : Heap} {tk : Nat} (F : Fr h₀ L h' m) (N : News h₀ L h' news') (hn : ∀ p ∈ news, p ∈ news') : JoinZ h₀ L m news s .next { s with heap := h', toks := tk } :=
  ⟨rfl, h', tk, rfl, F, fun p hp => N p (hn p hp)⟩
end Mine

end
namespace Mine
section
open PySem PySem.W PyProof.Rows
/-- the text with the law alone -/
noncomputable def vw : Program := { PySem.Challenge.pw_dn0125_08 with main := { PySem.Challenge.pw_dn0125_08.main with body := PySem.Challenge.pw_dn0125_08.main.body.drop 17 } }
/-- the text's other names -/
noncomputable def ls : List Str := [Str.ofString "_nbits", Str.ofString "_sqrt_nearest", Str.ofString "_rshift_nearest", Str.ofString "_div_nearest", Str.ofString "_ilog", Str.ofString "_dlog", Str.ofString "_Log10Memoize", Str.ofString "_log10_digits", Str.ofString "_iexp", Str.ofString "_dexp", Str.ofString "_dpower", Str.ofString "_law_at", Str.ofString "_law_fraction", Str.ofString "_law_raised", Str.ofString "_law_is_less"]
theorem ws : PySem.Challenge.rw_dn0125_08.wellSaid = true := by
  first | (rw [PySem.W.Fast.te9446332074065402090]; kernel_rfl) | kernel_rfl
local macro_rules | `(tactic| o_law) => `(tactic| refine holds_law Mine.ws fun said => ?_)
local macro_rules | `(tactic| o_head $H) => `(tactic| (refine holds_open (q := Mine.vw) (loose := Mine.ls) (Xt := fun s => xlAt Mine.vw [] s && recOk (RowW.records PySem.Challenge.rw_dn0125_08.row.toRowW) s) (XP := XL Mine.vw []) (Yf := Hook.obs $H) (Ya := Hook.val $H) (YP := Hook.says $H) (N := 1822) ?hl (Hook.of $H) (Hook.keeps $H) (fun s e => xl_of s (Bool.and_eq_true_iff.mp e).1) XL.keeps (by rfl) (by rfl) (by rfl) (fun s e => recFacts_of (Bool.and_eq_true_iff.mp e).2) (by rfl) (by assumption) (by decide +kernel) ⟨rfl, rfl, rfl, rfl, rfl, by decide +kernel⟩ ?hw ?hc; (case hl => intro w; first | (unfold openEnds fencedOpening topFrom; rw [PySem.W.Fast.te10274390034422433532, PySem.W.Fast.te14082659384304107361, PySem.W.Fast.te14364793385576792824, PySem.W.Fast.te14289696077712309145, PySem.W.Fast.te1435165496053646825, PySem.W.Fast.te4187177175401517315]; kernel_rfl) | kernel_rfl)))
set_option maxRecDepth 100000 in
set_option maxHeartbeats 8000000 in
open_top hd08 for PySem.Challenge.rw_dn0125_08
end
end Mine
section
open PySem PySem.W PyProof.Rows
namespace Mine
/-- what a call of the def at f gives back, whatever frame calls it: n frames of room, the ledger as it was -/
def Cl (prog : Program) (w : World) (K : Frag) (p : Program) (loose : List Str) (mean : ExcName → Option Value) (mg mb : Str → Option Value) (f : Addr) (n : Nat) (pre : Prop) (vs : List Value) (R : Tok → Value) : Prop :=
  ∀ (news : List (Addr × Obj)) (dp un : Nat) (gd : Option (List Code)) (cn : Str) (cs : Scope) (a : Addr) (ccd : Value) (cl : List (Str × Addr)) (outer : List Env) (A₀ : Around) (base h₀ : Heap) (L : Addr) (m : Str → Option Value) (s : Shared) (Q E : Value → Shared → Prop),
    Below A₀ base outer h₀ → Fr h₀ L s.heap m → K.In h₀ → News h₀ L s.heap news → Top p loose mean mg mb h₀ → cs.kind = .function →
    pre → dp + n < recursionLimit → un + 8 * n < cLine →
    (∀ (t : Tok) (h' : Heap) (tk' : Nat), Fr h₀ L h' m → News h₀ L h' news → Q (R t) { s with heap := h', toks := tk' }) →
    wpAny (model prog w) (ktrTop dp un gd cn cs L a ccd cl outer) (call (.ref f) vs) Q E s
theorem Cl.use {prog : Program} {w : World} {K : Frag} {p : Program} {loose : List Str} {mean : ExcName → Option Value} {mg mb : Str → Option Value} {f : Addr} {n : Nat} {pre : Prop} {vs : List Value} {R : Tok → Value}
    {news : List (Addr × Obj)} {dp un : Nat} {gd : Option (List Code)} {cn : Str} {cs : Scope} {a : Addr} {ccd : Value} {cl : List (Str × Addr)} {outer : List Env} {A₀ : Around} {base h₀ : Heap} {L : Addr} {m : Str → Option Value} {s : Shared} {Q E : Value → Shared → Prop}
    (B : Below A₀ base outer h₀) (F : Fr h₀ L s.heap m) (X : K.In h₀) (N : News h₀ L s.heap news) (T : Top p loose mean mg mb h₀) (hk : cs.kind = .function) (C : Cl prog w K p loose mean mg mb f n pre vs R)
    (hp : pre) (hd : dp + n < recursionLimit) (hu : un + 8 * n < cLine)
    (ret : ∀ (t : Tok) (h' : Heap) (tk' : Nat), Fr h₀ L h' m → News h₀ L h' news → Q (R t) { s with heap := h', toks := tk' }) :
    wpAny (model prog w) (ktrTop dp un gd cn cs L a ccd cl outer) (call (.ref f) vs) Q E s := C _ _ _ _ _ _ _ _ _ _ _ _ _ _ _ _ _ _ B F X N T hk hp hd hu ret
end Mine
abbrev Mine.C8 (w : World) (mean : ExcName → Option Value) (mg mb : Str → Option Value) (f : Addr) (n : Nat) (pre : Prop) (vs : List Value) (R : Tok → Value) : Prop :=
  Mine.Cl Challenge.rw_dn0125_08.row.prog w (Mine.hd08.heap_1 w.params) Mine.vw (looseW Mine.vw Mine.ls) mean mg mb f n pre vs R
local macro_rules | `(tactic| walk_at $s:str) => `(tactic| k_extra $s)
local macro_rules | `(tactic| l_fact) => `(tactic| k_extra "l_fact")
local macro_rules | `(tactic| bits_by_make) => `(tactic| k_extra "bits_by_make")
local macro_rules | `(tactic| kc_post) => `(tactic| k_extra "kc_post")
set_option maxRecDepth 100000 in
set_option maxHeartbeats 4000000 in
theorem Mine.rsn8 (w : World) (mean : ExcName → Option Value) (mg mb : Str → Option Value) (x s : Int) (tx ts : Tok) : Mine.C8 w mean mg mb 28 1 (0 ≤ s ∧ s ≤ 100000) [.int x tx, .int s ts] (fun t => .int (Lg.rsn x s) t) := by
  unfold Mine.C8 Mine.Cl
  k_fill
  k_with_none
  k_with "bits_by_make" => first | exact Mine.bits_scale (by assumption) | exact Mine.bits_scale (Mine.Pre.sc (by assumption)) | exact Mine.bits_x (by assumption) | exact Mine.bits_y (by assumption) | exact Mine.bits_len (by assumption) | exact Mine.bits_len (Mine.Pre.sc (by assumption)) | exact Mine.bits_w (by assumption) | exact Mine.bits_part | exact Mine.bits_power (by assumption) | ((with_reducible apply Mine.bits_sq); bits_by_make) | ((with_reducible apply Mine.bits_rsn); bits_by_make) | ((with_reducible apply Mine.bits_divN); bits_by_make) | fail "no own bits"
  k_with "unaryOp USub int" => (k_here; (first | (with_reducible refine Mine.T_neg (by assumption) ?_) | (with_reducible refine Mine.T_neg (Mine.Pre.sc (by assumption)) ?_)); intro T' hT' hT1' hT2')
  k_with "execs cons" => (k_here; (try dsimp only); k_gentoks)
  k_with "call type:str" => (k_here; (first | (with_reducible refine P.str_of_int (Mine.str_ok (by assumption)) ?_) | (with_reducible refine P.str_of_int (Mine.str_ok (Mine.Pre.sc (by assumption))) ?_)))
  k_with "call builtin:len" => (k_here; (with_reducible show wpAny _ _ (call (Value.builtin "len") [Value.str (PySem.Str.ofString (toString (_ : Int))) _]) _ _ _); (first | (with_reducible refine SBL.len (Mine.len_ok (by assumption)) ?_) | (with_reducible refine SBL.len (Mine.len_ok (Mine.Pre.sc (by assumption))) ?_)))
  k_with "l_fact" => first | (with_reducible exact Mine.M_dv (by assumption)) | (with_reducible exact Mine.M_dv (Mine.Pre.sc (by assumption))) | (with_reducible exact Mine.T_dv (by assumption) (by assumption)) | (with_reducible exact Mine.wi_sq (by assumption) ((Mine.test_low (by assumption) (by assumption)).mp (by assumption))) | (with_reducible exact Mine.wi_sq (by assumption) ((Mine.test_high (by assumption) (by omega)).mp (by assumption))) | (with_reducible exact Mine.wi_dv (by assumption) ((Mine.test_low (by assumption) (by assumption)).mp (by assumption))) | (with_reducible exact Mine.wi_dv (by assumption) ((Mine.test_high (by assumption) (by omega)).mp (by assumption))) | ((with_reducible refine Mine.k_dv ?kdA ?kdB); (case kdA => omega); (case kdB => omega)) | fail "no own fact"
  k_with "binaryOp LShift int int" => (k_here; (with_reducible refine lshift_int ?kbn ?kbs ?_); (case kbn => omega); (case kbs => (refine' kbm_shl ?kba ?kbc ?kbd; (case kba => bits_by_make); (case kbc => omega); (case kbd => decide))))
  k_with "binaryOp FloorDiv int int" => (k_here; first | ((with_reducible refine floordiv_int ?fdA ?_ (Or.inl (PyProof.noPylong_of_log2 (Mine.SI.log (by assumption))))); (case fdA => omega)) | (have fdH := Mine.ll_under (by assumption); (with_reducible refine floordiv_int (And.left fdH) ?_ (Or.inl (PyProof.noPylong_of_log2 (And.right fdH))))) | (have fdH := Mine.ll_k (by assumption); (with_reducible refine floordiv_int (And.left fdH) ?_ (Or.inl (PyProof.noPylong_of_log2 (And.right fdH))))) | (have fdH := Mine.lp_sum (Mine.lp_pos (by assumption) (by assumption)); (with_reducible refine floordiv_int (And.left fdH) ?_ (Or.inl (PyProof.noPylong_of_log2 (And.right fdH))))) | (have fdH := Mine.lp_sum (Mine.lp_neg (by assumption) (by assumption)); (with_reducible refine floordiv_int (And.left fdH) ?_ (Or.inl (PyProof.noPylong_of_log2 (And.right fdH))))))
  k_with "call builtin:divmod" => (k_here; (with_reducible show wpAny _ _ (call (Value.builtin _) [Value.int _ _, Value.int _ _]) _ _ _); (refine divmod_N (by assumption) (by assumption) ?dvA ?_ (Or.inl (PyProof.noPylong_of_log2 (Mine.Sz.log (And.right (by assumption)))))); (case dvA => omega); intro h' F' N')
  k_with "tree" => exact Mine.rsn_tree _ _
  intro news dp un gd cn cs a ccd cl outer A₀ base h₀ L m s Q E
  intros; rename_i hret
  refine wpAny_call ?_
  k_dflt (refine' code_def ?k1 ?k2 ?k3 ?k4 ?k5 ?kA ?kF ?kK ?k6 ?k7 ?k8 ?k9 ?kB ?_ ?c2 ?c3 ?c4 ?c5; (case kA => exact rfl); (case kF => exact rfl); (case kK => assumption); (case k1 => k_asm); (case k2 => k_asm); (case k3 => k_asm); (case k4 => k_asm); (case k5 => k_asm); (case k6 => k_is); (case k7 => k_is); (case k8 => ktr_room); (case k9 => first | exact BindsTo.of_eq rfl | exact binds_K (by k_in) rfl (by k_is) rfl rfl rfl); (case c5 => decide); (case kB => exact locs rfl); (case c2 => exact rfl); (case c3 => exact rfl); (case c4 => exact rfl); k_whole; intro g' L' h' FG' F' N' B' X' T'; (try dsimp only); (try k_lift B'); (try k_fold))
  w_strict k_steps
  w_strict (all_goals cb_end hret)
set_option maxRecDepth 100000 in
set_option maxHeartbeats 4000000 in
theorem Mine.div8 (w : World) (mean : ExcName → Option Value) (mg mb : Str → Option Value) (x s : Int) (tx ts : Tok) : Mine.C8 w mean mg mb 35 1 (0 < s ∧ Mine.Sz s) [.int x tx, .int s ts] (fun t => .int (Lg.divN x s) t) := by
  unfold Mine.C8 Mine.Cl
  k_fill
  k_with_none
  k_with "bits_by_make" => first | exact Mine.bits_scale (by assumption) | exact Mine.bits_scale (Mine.Pre.sc (by assumption)) | exact Mine.bits_x (by assumption) | exact Mine.bits_y (by assumption) | exact Mine.bits_len (by assumption) | exact Mine.bits_len (Mine.Pre.sc (by assumption)) | exact Mine.bits_w (by assumption) | exact Mine.bits_part | exact Mine.bits_power (by assumption) | ((with_reducible apply Mine.bits_sq); bits_by_make) | ((with_reducible apply Mine.bits_rsn); bits_by_make) | ((with_reducible apply Mine.bits_divN); bits_by_make) | fail "no own bits"
  k_with "unaryOp USub int" => (k_here; (first | (with_reducible refine Mine.T_neg (by assumption) ?_) | (with_reducible refine Mine.T_neg (Mine.Pre.sc (by assumption)) ?_)); intro T' hT' hT1' hT2')
  k_with "execs cons" => (k_here; (try dsimp only); k_gentoks)
  k_with "call type:str" => (k_here; (first | (with_reducible refine P.str_of_int (Mine.str_ok (by assumption)) ?_) | (with_reducible refine P.str_of_int (Mine.str_ok (Mine.Pre.sc (by assumption))) ?_)))
  k_with "call builtin:len" => (k_here; (with_reducible show wpAny _ _ (call (Value.builtin "len") [Value.str (PySem.Str.ofString (toString (_ : Int))) _]) _ _ _); (first | (with_reducible refine SBL.len (Mine.len_ok (by assumption)) ?_) | (with_reducible refine SBL.len (Mine.len_ok (Mine.Pre.sc (by assumption))) ?_)))
  k_with "l_fact" => first | (with_reducible exact Mine.M_dv (by assumption)) | (with_reducible exact Mine.M_dv (Mine.Pre.sc (by assumption))) | (with_reducible exact Mine.T_dv (by assumption) (by assumption)) | (with_reducible exact Mine.wi_sq (by assumption) ((Mine.test_low (by assumption) (by assumption)).mp (by assumption))) | (with_reducible exact Mine.wi_sq (by assumption) ((Mine.test_high (by assumption) (by omega)).mp (by assumption))) | (with_reducible exact Mine.wi_dv (by assumption) ((Mine.test_low (by assumption) (by assumption)).mp (by assumption))) | (with_reducible exact Mine.wi_dv (by assumption) ((Mine.test_high (by assumption) (by omega)).mp (by assumption))) | ((with_reducible refine Mine.k_dv ?kdA ?kdB); (case kdA => omega); (case kdB => omega)) | fail "no own fact"
  k_with "binaryOp LShift int int" => (k_here; (with_reducible refine lshift_int ?kbn ?kbs ?_); (case kbn => omega); (case kbs => (refine' kbm_shl ?kba ?kbc ?kbd; (case kba => bits_by_make); (case kbc => omega); (case kbd => decide))))
  k_with "binaryOp FloorDiv int int" => (k_here; first | ((with_reducible refine floordiv_int ?fdA ?_ (Or.inl (PyProof.noPylong_of_log2 (Mine.SI.log (by assumption))))); (case fdA => omega)) | (have fdH := Mine.ll_under (by assumption); (with_reducible refine floordiv_int (And.left fdH) ?_ (Or.inl (PyProof.noPylong_of_log2 (And.right fdH))))) | (have fdH := Mine.ll_k (by assumption); (with_reducible refine floordiv_int (And.left fdH) ?_ (Or.inl (PyProof.noPylong_of_log2 (And.right fdH))))) | (have fdH := Mine.lp_sum (Mine.lp_pos (by assumption) (by assumption)); (with_reducible refine floordiv_int (And.left fdH) ?_ (Or.inl (PyProof.noPylong_of_log2 (And.right fdH))))) | (have fdH := Mine.lp_sum (Mine.lp_neg (by assumption) (by assumption)); (with_reducible refine floordiv_int (And.left fdH) ?_ (Or.inl (PyProof.noPylong_of_log2 (And.right fdH))))))
  k_with "call builtin:divmod" => (k_here; (with_reducible show wpAny _ _ (call (Value.builtin _) [Value.int _ _, Value.int _ _]) _ _ _); (refine divmod_N (by assumption) (by assumption) ?dvA ?_ (Or.inl (PyProof.noPylong_of_log2 (Mine.Sz.log (And.right (by assumption)))))); (case dvA => omega); intro h' F' N')
  k_with "tree" => exact Mine.divN_tree _ _
  intro news dp un gd cn cs a ccd cl outer A₀ base h₀ L m s Q E
  intros; rename_i hret
  refine wpAny_call ?_
  k_dflt (refine' code_def ?k1 ?k2 ?k3 ?k4 ?k5 ?kA ?kF ?kK ?k6 ?k7 ?k8 ?k9 ?kB ?_ ?c2 ?c3 ?c4 ?c5; (case kA => exact rfl); (case kF => exact rfl); (case kK => assumption); (case k1 => k_asm); (case k2 => k_asm); (case k3 => k_asm); (case k4 => k_asm); (case k5 => k_asm); (case k6 => k_is); (case k7 => k_is); (case k8 => ktr_room); (case k9 => first | exact BindsTo.of_eq rfl | exact binds_K (by k_in) rfl (by k_is) rfl rfl rfl); (case c5 => decide); (case kB => exact locs rfl); (case c2 => exact rfl); (case c3 => exact rfl); (case c4 => exact rfl); k_whole; intro g' L' h' FG' F' N' B' X' T'; (try dsimp only); (try k_lift B'); (try k_fold))
  w_strict k_steps
  w_strict (all_goals cb_end hret)
set_option maxRecDepth 100000 in
set_option maxHeartbeats 4000000 in
theorem Mine.sq8 (w : World) (mean : ExcName → Option Value) (mg mb : Str → Option Value) (n a : Int) (tn ta : Tok) : Mine.C8 w mean mg mb 21 1 ((1 ≤ n ∧ 1 ≤ a) ∧ Mine.SqPre n a) [.int n tn, .int a ta] (fun t => .int (Lg.sqN n a) t) := by
  unfold Mine.C8 Mine.Cl
  k_fill
  k_with_none
  k_with "bits_by_make" => first | exact Mine.bits_scale (by assumption) | exact Mine.bits_scale (Mine.Pre.sc (by assumption)) | exact Mine.bits_x (by assumption) | exact Mine.bits_y (by assumption) | exact Mine.bits_len (by assumption) | exact Mine.bits_len (Mine.Pre.sc (by assumption)) | exact Mine.bits_w (by assumption) | exact Mine.bits_part | exact Mine.bits_power (by assumption) | ((with_reducible apply Mine.bits_sq); bits_by_make) | ((with_reducible apply Mine.bits_rsn); bits_by_make) | ((with_reducible apply Mine.bits_divN); bits_by_make) | fail "no own bits"
  k_with "unaryOp USub int" => (k_here; (first | (with_reducible refine Mine.T_neg (by assumption) ?_) | (with_reducible refine Mine.T_neg (Mine.Pre.sc (by assumption)) ?_)); intro T' hT' hT1' hT2')
  k_with "execs cons" => (k_here; (try dsimp only); k_gentoks)
  k_with "call type:str" => (k_here; (first | (with_reducible refine P.str_of_int (Mine.str_ok (by assumption)) ?_) | (with_reducible refine P.str_of_int (Mine.str_ok (Mine.Pre.sc (by assumption))) ?_)))
  k_with "call builtin:len" => (k_here; (with_reducible show wpAny _ _ (call (Value.builtin "len") [Value.str (PySem.Str.ofString (toString (_ : Int))) _]) _ _ _); (first | (with_reducible refine SBL.len (Mine.len_ok (by assumption)) ?_) | (with_reducible refine SBL.len (Mine.len_ok (Mine.Pre.sc (by assumption))) ?_)))
  k_with "l_fact" => first | (with_reducible exact Mine.M_dv (by assumption)) | (with_reducible exact Mine.M_dv (Mine.Pre.sc (by assumption))) | (with_reducible exact Mine.T_dv (by assumption) (by assumption)) | (with_reducible exact Mine.wi_sq (by assumption) ((Mine.test_low (by assumption) (by assumption)).mp (by assumption))) | (with_reducible exact Mine.wi_sq (by assumption) ((Mine.test_high (by assumption) (by omega)).mp (by assumption))) | (with_reducible exact Mine.wi_dv (by assumption) ((Mine.test_low (by assumption) (by assumption)).mp (by assumption))) | (with_reducible exact Mine.wi_dv (by assumption) ((Mine.test_high (by assumption) (by omega)).mp (by assumption))) | ((with_reducible refine Mine.k_dv ?kdA ?kdB); (case kdA => omega); (case kdB => omega)) | fail "no own fact"
  k_with "binaryOp LShift int int" => (k_here; (with_reducible refine lshift_int ?kbn ?kbs ?_); (case kbn => omega); (case kbs => (refine' kbm_shl ?kba ?kbc ?kbd; (case kba => bits_by_make); (case kbc => omega); (case kbd => decide))))
  k_with "binaryOp FloorDiv int int" => (k_here; first | ((with_reducible refine floordiv_int ?fdA ?_ (Or.inl (PyProof.noPylong_of_log2 (Mine.SI.log (by assumption))))); (case fdA => omega)) | (have fdH := Mine.ll_under (by assumption); (with_reducible refine floordiv_int (And.left fdH) ?_ (Or.inl (PyProof.noPylong_of_log2 (And.right fdH))))) | (have fdH := Mine.ll_k (by assumption); (with_reducible refine floordiv_int (And.left fdH) ?_ (Or.inl (PyProof.noPylong_of_log2 (And.right fdH))))) | (have fdH := Mine.lp_sum (Mine.lp_pos (by assumption) (by assumption)); (with_reducible refine floordiv_int (And.left fdH) ?_ (Or.inl (PyProof.noPylong_of_log2 (And.right fdH))))) | (have fdH := Mine.lp_sum (Mine.lp_neg (by assumption) (by assumption)); (with_reducible refine floordiv_int (And.left fdH) ?_ (Or.inl (PyProof.noPylong_of_log2 (And.right fdH))))))
  k_with "call builtin:divmod" => (k_here; (with_reducible show wpAny _ _ (call (Value.builtin _) [Value.int _ _, Value.int _ _]) _ _ _); (refine divmod_N (by assumption) (by assumption) ?dvA ?_ (Or.inl (PyProof.noPylong_of_log2 (Mine.Sz.log (And.right (by assumption)))))); (case dvA => omega); intro h' F' N')
  k_with "tree" => exact Mine.sq_tree (by assumption) (by assumption) (by assumption)
  k_with "exec While Compare cons nil" => k_while_given ["n"] (fun n script a b => Mine.SI n a b ∧ 1 ≤ a) (fun n script a b => Mine.mu n a b) "a" "b"
  k_with "state" => first | exact Mine.si_start (by assumption) | exact Mine.si_up (by assumption)
  k_with "measure" => exact Mine.si_mu (by assumption) (by assumption)
  intro news dp un gd cn cs a ccd cl outer A₀ base h₀ L m s Q E
  intros; rename_i hret
  refine wpAny_call ?_
  k_dflt (refine' code_def ?k1 ?k2 ?k3 ?k4 ?k5 ?kA ?kF ?kK ?k6 ?k7 ?k8 ?k9 ?kB ?_ ?c2 ?c3 ?c4 ?c5; (case kA => exact rfl); (case kF => exact rfl); (case kK => assumption); (case k1 => k_asm); (case k2 => k_asm); (case k3 => k_asm); (case k4 => k_asm); (case k5 => k_asm); (case k6 => k_is); (case k7 => k_is); (case k8 => ktr_room); (case k9 => first | exact BindsTo.of_eq rfl | exact binds_K (by k_in) rfl (by k_is) rfl rfl rfl); (case c5 => decide); (case kB => exact locs rfl); (case c2 => exact rfl); (case c3 => exact rfl); (case c4 => exact rfl); k_whole; intro g' L' h' FG' F' N' B' X' T'; (try dsimp only); (try k_lift B'); (try k_fold))
  w_strict k_steps
  w_strict (all_goals cb_end hret)
set_option maxRecDepth 100000 in
set_option maxHeartbeats 4000000 in
theorem Mine.ilog8 (w : World) (mean : ExcName → Option Value) (mg mb : Str → Option Value) (x M : Int) (tx tM : Tok) : Mine.C8 w mean mg mb 43 3 (Mine.Pre x M) [.int x tx, .int M tM] (fun t => .int (Mine.ilog x M) t) := by
  unfold Mine.C8 Mine.Cl
  k_fill
  k_with_none
  k_with "bits_by_make" => first | exact Mine.bits_scale (by assumption) | exact Mine.bits_scale (Mine.Pre.sc (by assumption)) | exact Mine.bits_x (by assumption) | exact Mine.bits_y (by assumption) | exact Mine.bits_len (by assumption) | exact Mine.bits_len (Mine.Pre.sc (by assumption)) | exact Mine.bits_w (by assumption) | exact Mine.bits_part | exact Mine.bits_power (by assumption) | ((with_reducible apply Mine.bits_sq); bits_by_make) | ((with_reducible apply Mine.bits_rsn); bits_by_make) | ((with_reducible apply Mine.bits_divN); bits_by_make) | fail "no own bits"
  k_with "unaryOp USub int" => (k_here; (first | (with_reducible refine Mine.T_neg (by assumption) ?_) | (with_reducible refine Mine.T_neg (Mine.Pre.sc (by assumption)) ?_)); intro T' hT' hT1' hT2')
  k_with "execs cons" => (k_here; (try dsimp only); k_gentoks)
  k_with "call type:str" => (k_here; (first | (with_reducible refine P.str_of_int (Mine.str_ok (by assumption)) ?_) | (with_reducible refine P.str_of_int (Mine.str_ok (Mine.Pre.sc (by assumption))) ?_)))
  k_with "call builtin:len" => (k_here; (with_reducible show wpAny _ _ (call (Value.builtin "len") [Value.str (PySem.Str.ofString (toString (_ : Int))) _]) _ _ _); (first | (with_reducible refine SBL.len (Mine.len_ok (by assumption)) ?_) | (with_reducible refine SBL.len (Mine.len_ok (Mine.Pre.sc (by assumption))) ?_)))
  k_with "l_fact" => first | (with_reducible exact Mine.M_dv (by assumption)) | (with_reducible exact Mine.M_dv (Mine.Pre.sc (by assumption))) | (with_reducible exact Mine.T_dv (by assumption) (by assumption)) | (with_reducible exact Mine.wi_sq (by assumption) ((Mine.test_low (by assumption) (by assumption)).mp (by assumption))) | (with_reducible exact Mine.wi_sq (by assumption) ((Mine.test_high (by assumption) (by omega)).mp (by assumption))) | (with_reducible exact Mine.wi_dv (by assumption) ((Mine.test_low (by assumption) (by assumption)).mp (by assumption))) | (with_reducible exact Mine.wi_dv (by assumption) ((Mine.test_high (by assumption) (by omega)).mp (by assumption))) | ((with_reducible refine Mine.k_dv ?kdA ?kdB); (case kdA => omega); (case kdB => omega)) | fail "no own fact"
  k_with "binaryOp LShift int int" => (k_here; (with_reducible refine lshift_int ?kbn ?kbs ?_); (case kbn => omega); (case kbs => (refine' kbm_shl ?kba ?kbc ?kbd; (case kba => bits_by_make); (case kbc => omega); (case kbd => decide))))
  k_with "binaryOp FloorDiv int int" => (k_here; first | ((with_reducible refine floordiv_int ?fdA ?_ (Or.inl (PyProof.noPylong_of_log2 (Mine.SI.log (by assumption))))); (case fdA => omega)) | (have fdH := Mine.ll_under (by assumption); (with_reducible refine floordiv_int (And.left fdH) ?_ (Or.inl (PyProof.noPylong_of_log2 (And.right fdH))))) | (have fdH := Mine.ll_k (by assumption); (with_reducible refine floordiv_int (And.left fdH) ?_ (Or.inl (PyProof.noPylong_of_log2 (And.right fdH))))) | (have fdH := Mine.lp_sum (Mine.lp_pos (by assumption) (by assumption)); (with_reducible refine floordiv_int (And.left fdH) ?_ (Or.inl (PyProof.noPylong_of_log2 (And.right fdH))))) | (have fdH := Mine.lp_sum (Mine.lp_neg (by assumption) (by assumption)); (with_reducible refine floordiv_int (And.left fdH) ?_ (Or.inl (PyProof.noPylong_of_log2 (And.right fdH))))))
  k_with "call builtin:divmod" => (k_here; (with_reducible show wpAny _ _ (call (Value.builtin _) [Value.int _ _, Value.int _ _]) _ _ _); (refine divmod_N (by assumption) (by assumption) ?dvA ?_ (Or.inl (PyProof.noPylong_of_log2 (Mine.Sz.log (And.right (by assumption)))))); (case dvA => omega); intro h' F' N')
  k_with "call ref" => (k_here; (with_reducible show wpAny _ _ (call (Value.ref 28) [Value.int _ _, Value.int _ _]) _ _ _); (k_dflt (refine' Mine.Cl.use ?k1 ?k2 ?k3 ?k4 ?k5 ?kK (Mine.rsn8 _ _ _ _ _ _ _ _) ?kp ?kd ?ku ?_; (case k1 => k_asm); (case k2 => k_asm); (case k3 => k_asm); (case k4 => k_asm); (case k5 => k_asm); (case kK => first | exact rfl | assumption); (case kp => first | ((try dsimp only); first | assumption | omega | l_fact)); (case kd => ktr_room); (case ku => ktr_units); intro t9 h9 tk9 F9 N9; (try dsimp only); (try k_fold))))
  k_with "call ref" => (k_here; (with_reducible show wpAny _ _ (call (Value.ref 35) [Value.int _ _, Value.int _ _]) _ _ _); (k_dflt (refine' Mine.Cl.use ?k1 ?k2 ?k3 ?k4 ?k5 ?kK (Mine.div8 _ _ _ _ _ _ _ _) ?kp ?kd ?ku ?_; (case k1 => k_asm); (case k2 => k_asm); (case k3 => k_asm); (case k4 => k_asm); (case k5 => k_asm); (case kK => first | exact rfl | assumption); (case kp => first | ((try dsimp only); first | assumption | omega | l_fact)); (case kd => ktr_room); (case ku => ktr_units); intro t9 h9 tk9 F9 N9; (try dsimp only); (try k_fold))))
  k_with "call ref" => (k_here; (with_reducible show wpAny _ _ (call (Value.ref 21) [Value.int _ _, Value.int _ _]) _ _ _); (k_dflt (refine' Mine.Cl.use ?k1 ?k2 ?k3 ?k4 ?k5 ?kK (Mine.sq8 _ _ _ _ _ _ _ _) ?kp ?kd ?ku ?_; (case k1 => k_asm); (case k2 => k_asm); (case k3 => k_asm); (case k4 => k_asm); (case k5 => k_asm); (case kK => first | exact rfl | assumption); (case kp => first | ((try dsimp only); first | assumption | omega | l_fact)); (case kd => ktr_room); (case ku => ktr_units); intro t9 h9 tk9 F9 N9; (try dsimp only); (try k_fold))))
  k_with "tree" => first | exact Mine.ilog_tree (by assumption) (Mine.na_low (by assumption) (by assumption) (by assumption)) (by assumption) (by assumption) (by assumption) (by omega) | exact Mine.ilog_tree (by assumption) (Mine.na_high (by assumption) (by omega) (by assumption)) (by assumption) (by assumption) (by assumption) (by omega)
  k_with "exec While BoolOp cons nil" => k_while_given ["x", "M"] (fun x M script y R => Mine.WI x M y R ∧ 0 ≤ R ∧ R ≤ 10) (fun x M script y R => (10 - R).toNat) "y" "R"
  k_with "state" => first | (with_reducible exact Mine.wb_up (by assumption) (by omega) (by omega)) | exact Mine.wb_start (by assumption) (Mine.na_low (by assumption) (by assumption) (by assumption)) (by assumption) | exact Mine.wb_start (by assumption) (Mine.na_high (by assumption) (by omega) (by assumption)) (by assumption) | exact Mine.wb_up (by assumption) (by omega) (by omega) | exact Mine.wi_start (by assumption) | exact Mine.wi_up' (by assumption) ((Mine.test_low (by assumption) (by assumption)).mp (by assumption)) | exact Mine.wi_up' (by assumption) ((Mine.test_high (by assumption) (by omega)).mp (by assumption))
  k_with "pyIter ref" => k_state_given ["M", "yshift", "w!"] (fun M ys w0 pre w => Mine.WB M ys w0 pre w) "w"
  k_with "measure" => first | exact Mine.wi_mu (by assumption) ((Mine.test_low (by assumption) (by assumption)).mp (by assumption)) | exact Mine.wi_mu (by assumption) ((Mine.test_high (by assumption) (by omega)).mp (by assumption))
  intro news dp un gd cn cs a ccd cl outer A₀ base h₀ L m s Q E
  intros; rename_i hret
  refine wpAny_call ?_
  k_dflt (refine' code_def ?k1 ?k2 ?k3 ?k4 ?k5 ?kA ?kF ?kK ?k6 ?k7 ?k8 ?k9 ?kB ?_ ?c2 ?c3 ?c4 ?c5; (case kA => exact rfl); (case kF => exact rfl); (case kK => assumption); (case k1 => k_asm); (case k2 => k_asm); (case k3 => k_asm); (case k4 => k_asm); (case k5 => k_asm); (case k6 => k_is); (case k7 => k_is); (case k8 => ktr_room); (case k9 => first | exact BindsTo.of_eq rfl | exact binds_K (by k_in) rfl (by k_is) rfl rfl rfl); (case c5 => decide); (case kB => exact locs rfl); (case c2 => exact rfl); (case c3 => exact rfl); (case c4 => exact rfl); k_whole; intro g' L' h' FG' F' N' B' X' T'; (try dsimp only); (try k_lift B'); (try k_fold))
  w_strict k_steps
  w_strict (all_goals cb_end hret)

end
section
open PySem PySem.W PyProof.Rows
local macro_rules | `(tactic| walk_at $s:str) => `(tactic| k_extra $s)
local macro_rules | `(tactic| l_fact) => `(tactic| k_extra "l_fact")
local macro_rules | `(tactic| bits_by_make) => `(tactic| k_extra "bits_by_make")
local macro_rules | `(tactic| kc_post) => `(tactic| k_extra "kc_post")
set_option maxRecDepth 100000 in
set_option maxHeartbeats 4000000 in
theorem Mine.ten8 (w : World) (mean : ExcName → Option Value) (mg mb : Str → Option Value) (q : Int) (tq : Tok) : Mine.C8 w mean mg mb 82 1 (0 ≤ q ∧ q ≤ 46) [.int q tq] (fun t => .int (Mine.tenQ q) t) := by
  unfold Mine.C8 Mine.Cl
  k_fill
  k_with_none
  k_with "execs cons" => (k_here; (try dsimp only); k_gentoks)
  k_with "call type:int" => (k_here; (with_reducible show wpAny _ _ (call (Value.type "int") [Value.str (Txt.slice _ _ (some (_ + 1))) _]) _ _ _); (have hTT := Mine.ten_text (And.left (by assumption)) (And.right (by assumption))); (with_reducible refine PySem.W.KIN.call_text (And.left hTT) (And.right hTT) ?_); clear hTT)
  intro news dp un gd cn cs a ccd cl outer A₀ base h₀ L m s Q E B F X N T hk hq hd hu hret
  have h82 := (Frag.In.keeps X F.keep) 82 (methodObj (.ref 71) (.ref 80)) rfl
  refine wpAny_call (method_call h82 ?_)
  clear h82
  k_dflt (refine' code_def ?k1 ?k2 ?k3 ?k4 ?k5 ?kA ?kF ?kK ?k6 ?k7 ?k8 ?k9 ?kB ?_ ?c2 ?c3 ?c4 ?c5; (case kA => exact rfl); (case kF => exact rfl); (case kK => assumption); (case k1 => k_asm); (case k2 => k_asm); (case k3 => k_asm); (case k4 => k_asm); (case k5 => k_asm); (case k6 => k_is); (case k7 => k_is); (case k8 => ktr_room); (case k9 => first | exact BindsTo.of_eq rfl | exact binds_K (by k_in) rfl (by k_is) rfl rfl rfl); (case c5 => decide); (case kB => exact locs rfl); (case c2 => exact rfl); (case c3 => exact rfl); (case c4 => exact rfl); k_whole; intro g' L' h' FG' F' N' B' X' T'; (try dsimp only); (try k_lift B'); (try k_fold))
  w_strict k_steps
  w_strict (all_goals cb_end hret)

end
section
open PySem PySem.W PyProof.Rows
local macro_rules | `(tactic| walk_at $s:str) => `(tactic| k_extra $s)
local macro_rules | `(tactic| l_fact) => `(tactic| k_extra "l_fact")
local macro_rules | `(tactic| bits_by_make) => `(tactic| k_extra "bits_by_make")
local macro_rules | `(tactic| kc_post) => `(tactic| k_extra "kc_post")
set_option maxRecDepth 100000 in
set_option maxHeartbeats 4000000 in
theorem Mine.iexp8 (w : World) (mean : ExcName → Option Value) (mg mb : Str → Option Value) (x M : Int) (tx tM : Tok) : Mine.C8 w mean mg mb 90 2 (Mine.ExPre x M) [.int x tx, .int M tM] (fun t => .int (Mine.iexp x M) t) := by
  unfold Mine.C8 Mine.Cl
  k_fill
  k_with_none
  k_with "execs cons" => (k_here; (try dsimp only); k_gentoks)
  k_with "binaryOp LShift int int" => (k_here; (with_reducible refine lshift_int ?kbn ?kbs ?_); (case kbn => omega); (case kbs => (refine' kbm_shl ?kba ?kbc ?kbd; (case kba => bits_by_make); (case kbc => omega); (case kbd => decide))))
  k_with "call ref" => (k_here; (with_reducible show wpAny _ _ (call (Value.ref 28) [Value.int _ _, Value.int _ _]) _ _ _); (k_dflt (refine' Mine.Cl.use ?k1 ?k2 ?k3 ?k4 ?k5 ?kK (Mine.rsn8 _ _ _ _ _ _ _ _) ?kp ?kd ?ku ?_; (case k1 => k_asm); (case k2 => k_asm); (case k3 => k_asm); (case k4 => k_asm); (case k5 => k_asm); (case kK => first | exact rfl | assumption); (case kp => first | ((try dsimp only); first | assumption | omega | l_fact)); (case kd => ktr_room); (case ku => ktr_units); intro t9 h9 tk9 F9 N9; (try dsimp only); (try k_fold))))
  k_with "call ref" => (k_here; (with_reducible show wpAny _ _ (call (Value.ref 35) [Value.int _ _, Value.int _ _]) _ _ _); (k_dflt (refine' Mine.Cl.use ?k1 ?k2 ?k3 ?k4 ?k5 ?kK (Mine.div8 _ _ _ _ _ _ _ _) ?kp ?kd ?ku ?_; (case k1 => k_asm); (case k2 => k_asm); (case k3 => k_asm); (case k4 => k_asm); (case k5 => k_asm); (case kK => first | exact rfl | assumption); (case kp => first | ((try dsimp only); first | assumption | omega | l_fact)); (case kd => ktr_room); (case ku => ktr_units); intro t9 h9 tk9 F9 N9; (try dsimp only); (try k_fold))))
  k_with "call ref" => (k_here; (with_reducible show wpAny _ _ (call (Value.ref 21) [Value.int _ _, Value.int _ _]) _ _ _); (k_dflt (refine' Mine.Cl.use ?k1 ?k2 ?k3 ?k4 ?k5 ?kK (Mine.sq8 _ _ _ _ _ _ _ _) ?kp ?kd ?ku ?_; (case k1 => k_asm); (case k2 => k_asm); (case k3 => k_asm); (case k4 => k_asm); (case k5 => k_asm); (case kK => first | exact rfl | assumption); (case kp => first | ((try dsimp only); first | assumption | omega | l_fact)); (case kd => ktr_room); (case ku => ktr_units); intro t9 h9 tk9 F9 N9; (try dsimp only); (try k_fold))))
  k_with "bits_by_make" => first | exact Mine.bits_ex (by assumption) | exact Mine.bits_scale (Mine.ExPre.sc (by assumption)) | exact Mine.bits_len (Mine.ExPre.sc (by assumption)) | exact Mine.bits_Ms (by assumption) (by assumption) | exact Mine.bits_exy (by assumption) | exact Mine.bits_dby (by assumption) | fail "no own bits"
  k_with "unaryOp USub int" => (k_here; ((with_reducible refine Mine.T_neg (Mine.ExPre.sc (by assumption)) ?_)); intro T' hT' hT1' hT2')
  k_with "call type:str" => (k_here; (with_reducible refine P.str_of_int (Mine.str_ok (Mine.ExPre.sc (by assumption))) ?_))
  k_with "call builtin:len" => (k_here; (with_reducible show wpAny _ _ (call (Value.builtin "len") [Value.str (PySem.Str.ofString (toString (_ : Int))) _]) _ _ _); (with_reducible refine SBL.len (Mine.len_ok (Mine.ExPre.sc (by assumption))) ?_))
  k_with "call builtin:int.bit_length" => (k_here; (with_reducible refine Mine.nb_rule (by assumption) ?_); intro R' hR' hR0' hR1')
  k_with "binaryOp FloorDiv int int" => (k_here; (with_reducible show wpAny _ _ (binaryOp _ (Value.int (_ * 2 ^ Int.toNat 8) _) _) _ _ _); (have fdH := Mine.M_dv8 (by assumption)); (with_reducible refine floordiv_int (And.left fdH) ?_ (Or.inl (PyProof.noPylong_of_log2 (And.right fdH)))); clear fdH)
  k_with "l_fact" => first | (with_reducible exact Mine.T_dv (by assumption) (by assumption)) | (with_reducible exact Mine.ex_dv (by assumption) (by omega) (by omega)) | (with_reducible exact Mine.db_dv (by assumption) (by omega) (by omega)) | fail "no own fact"
  k_with "tree" => exact Mine.iexp_tree (by assumption) (by assumption) (by assumption) (by omega) (by assumption) (by omega)
  k_with "pyIter ref" => (k_of "i" => k_state_given ["x", "M", "R", "y!"] (fun x M R y0 pre y => Mine.EX x M R y0 pre y) "y")
  k_with "pyIter ref" => (k_of "k" => k_state_given ["x", "M", "R", "y!"] (fun x M R y0 pre y => Mine.DB x M R y0 pre y) "y")
  k_with "state" => first | exact Mine.ex_start (by assumption) (by assumption) (by assumption) | exact Mine.ex_up (by assumption) (by omega) (by omega) | exact Mine.db_start (by assumption) | exact Mine.db_up (by assumption) (by omega) (by omega) (by omega)
  intro news dp un gd cn cs a ccd cl outer A₀ base h₀ L m s Q E B F X N T hk hq hd hu hret
  refine wpAny_call ?_
  k_dflt (refine' code_def ?k1 ?k2 ?k3 ?k4 ?k5 ?kA ?kF ?kK ?k6 ?k7 ?k8 ?k9 ?kB ?_ ?c2 ?c3 ?c4 ?c5; (case kA => exact rfl); (case kF => exact rfl); (case kK => assumption); (case k1 => k_asm); (case k2 => k_asm); (case k3 => k_asm); (case k4 => k_asm); (case k5 => k_asm); (case k6 => k_is); (case k7 => k_is); (case k8 => ktr_room); (case k9 => first | exact BindsTo.of_eq rfl | exact binds_K (by k_in) rfl (by k_is) rfl rfl rfl); (case c5 => decide); (case kB => exact locs rfl); (case c2 => exact rfl); (case c3 => exact rfl); (case c4 => exact rfl); k_whole; intro g' L' h' FG' F' N' B' X' T'; (try dsimp only); (try k_lift B'); (try k_fold))
  w_strict (k_steps)
  w_strict (all_goals cb_end hret)

end
section
open PySem PySem.W PyProof.Rows
local macro_rules | `(tactic| walk_at $s:str) => `(tactic| k_extra $s)
local macro_rules | `(tactic| l_fact) => `(tactic| k_extra "l_fact")
local macro_rules | `(tactic| bits_by_make) => `(tactic| k_extra "bits_by_make")
local macro_rules | `(tactic| kc_post) => `(tactic| k_extra "kc_post")
set_option maxRecDepth 100000 in
set_option maxHeartbeats 4000000 in
theorem Mine.dlog8 (w : World) (mean : ExcName → Option Value) (mg mb : Str → Option Value) (c e p : Int) (tc te tp : Tok) : Mine.C8 w mean mg mb 50 4 (Mine.DlPre c e p) [.int c tc, .int e te, .int p tp] (fun t => .int (Mine.dlog c e p) t) := by
  unfold Mine.C8 Mine.Cl
  k_fill
  k_with_none
  k_with "execs cons" => (k_here; (try dsimp only); k_gentoks)
  k_with "call ref" => (k_here; (with_reducible show wpAny _ _ (call (Value.ref 28) [Value.int _ _, Value.int _ _]) _ _ _); (k_dflt (refine' Mine.Cl.use ?k1 ?k2 ?k3 ?k4 ?k5 ?kK (Mine.rsn8 _ _ _ _ _ _ _ _) ?kp ?kd ?ku ?_; (case k1 => k_asm); (case k2 => k_asm); (case k3 => k_asm); (case k4 => k_asm); (case k5 => k_asm); (case kK => first | exact rfl | assumption); (case kp => first | ((try dsimp only); first | assumption | omega | l_fact)); (case kd => ktr_room); (case ku => ktr_units); intro t9 h9 tk9 F9 N9; (try dsimp only); (try k_fold))))
  k_with "call ref" => (k_here; (with_reducible show wpAny _ _ (call (Value.ref 35) [Value.int _ _, Value.int _ _]) _ _ _); (k_dflt (refine' Mine.Cl.use ?k1 ?k2 ?k3 ?k4 ?k5 ?kK (Mine.div8 _ _ _ _ _ _ _ _) ?kp ?kd ?ku ?_; (case k1 => k_asm); (case k2 => k_asm); (case k3 => k_asm); (case k4 => k_asm); (case k5 => k_asm); (case kK => first | exact rfl | assumption); (case kp => first | ((try dsimp only); first | assumption | omega | l_fact)); (case kd => ktr_room); (case ku => ktr_units); intro t9 h9 tk9 F9 N9; (try dsimp only); (try k_fold))))
  k_with "call ref" => (k_here; (with_reducible show wpAny _ _ (call (Value.ref 21) [Value.int _ _, Value.int _ _]) _ _ _); (k_dflt (refine' Mine.Cl.use ?k1 ?k2 ?k3 ?k4 ?k5 ?kK (Mine.sq8 _ _ _ _ _ _ _ _) ?kp ?kd ?ku ?_; (case k1 => k_asm); (case k2 => k_asm); (case k3 => k_asm); (case k4 => k_asm); (case k5 => k_asm); (case kK => first | exact rfl | assumption); (case kp => first | ((try dsimp only); first | assumption | omega | l_fact)); (case kd => ktr_room); (case ku => ktr_units); intro t9 h9 tk9 F9 N9; (try dsimp only); (try k_fold))))
  k_with "call ref" => (k_here; (with_reducible show wpAny _ _ (call (Value.ref 82) [Value.int _ _]) _ _ _); (k_dflt (refine' Mine.Cl.use ?k1 ?k2 ?k3 ?k4 ?k5 ?kK (Mine.ten8 _ _ _ _ _ _) ?kp ?kd ?ku ?_; (case k1 => k_asm); (case k2 => k_asm); (case k3 => k_asm); (case k4 => k_asm); (case k5 => k_asm); (case kK => first | exact rfl | assumption); (case kp => omega); (case kd => ktr_room); (case ku => ktr_units); intro t9 h9 tk9 F9 N9; (try dsimp only); (try k_fold))))
  k_with "call ref" => (k_here; (with_reducible show wpAny _ _ (call (Value.ref 43) [Value.int _ _, Value.int _ _]) _ _ _); (k_dflt (refine' Mine.Cl.use ?k1 ?k2 ?k3 ?k4 ?k5 ?kK (Mine.ilog8 _ _ _ _ _ _ _ _) ?kp ?kd ?ku ?_; (case k1 => k_asm); (case k2 => k_asm); (case k3 => k_asm); (case k4 => k_asm); (case k5 => k_asm); (case kK => first | exact rfl | assumption); (case kp => first | exact Mine.dl_pre_p (by assumption) (by assumption) (by assumption) | exact Mine.dl_pre_n (by assumption) (by assumption) (by assumption)); (case kd => ktr_room); (case ku => ktr_units); intro t9 h9 tk9 F9 N9; (try dsimp only); (try k_fold))))
  k_with "callWith ref" => (k_here; (with_reducible show wpAny _ _ (callWith _ (Value.ref 82) _ _ []) _ _ _); k_dflt (refine' Mine.callWith_KM ?k1 ?k2 ?k3 ?_; (case k1 => k_asm); (case k2 => exact rfl); (case k3 => exact rfl); k_whole))
  k_with "binaryOp Pow int int" => (k_here; (with_reducible show wpAny _ _ (binaryOp Operator.Pow (Value.int 10 _) (Value.int _ _)) _ _ _); (with_reducible refine pow_int ?pwA ?pwB ?_); (case pwA => omega); (case pwB => exact Mine.pow10_ok (by omega)))
  k_with "bits_by_make" => first | exact Mine.bits_dlc (by assumption) | exact Mine.bits_tenQ _ | ((with_reducible refine Mine.bits_ten ?_); omega) | fail "no own bits"
  k_with "call type:str" => (k_here; first | (with_reducible refine P.str_of_int (Mine.str_small (Mine.bits_dlc (by assumption)) (by decide)) ?_) | (with_reducible refine P.str_of_int (Mine.str_ab (by assumption) (by assumption)) ?_))
  k_with "call builtin:len" => (k_here; (with_reducible show wpAny _ _ (call (Value.builtin "len") [Value.str (PySem.Str.ofString (toString (_ : Int))) _]) _ _ _); first | ((with_reducible refine Mine.len_c (by assumption) ?_); intro D' hD' hD1' hD2') | ((with_reducible refine Mine.len_f (by assumption) (by assumption) ?_); intro D' hD' hD1' hD2'))
  k_with "binaryOp Sub int bool" => (k_here; (with_reducible refine Mine.f_sub (by assumption) (by assumption) ?_); intro f' hf' hf1' hf2')
  k_with "l_fact" => first | ((with_reducible refine Mine.ten_dv ?_); omega) | ((with_reducible refine Mine.dv_small ?_ ?_) <;> omega) | fail "no own fact"
  intro news dp un gd cn cs a ccd cl outer A₀ base h₀ L m s Q E B F X N T hk hq hd hu hret
  have hp1 := hq.p1
  have hp2 := hq.p2
  have he1 := hq.e1
  have he2 := hq.e2
  refine wpAny_call ?_
  k_dflt (refine' code_def ?k1 ?k2 ?k3 ?k4 ?k5 ?kA ?kF ?kK ?k6 ?k7 ?k8 ?k9 ?kB ?_ ?c2 ?c3 ?c4 ?c5; (case kA => exact rfl); (case kF => exact rfl); (case kK => assumption); (case k1 => k_asm); (case k2 => k_asm); (case k3 => k_asm); (case k4 => k_asm); (case k5 => k_asm); (case k6 => k_is); (case k7 => k_is); (case k8 => ktr_room); (case k9 => first | exact BindsTo.of_eq rfl | exact binds_K (by k_in) rfl (by k_is) rfl rfl rfl); (case c5 => decide); (case kB => exact locs rfl); (case c2 => exact rfl); (case c3 => exact rfl); (case c4 => exact rfl); k_whole; intro g' L' h' FG' F' N' B' X' T'; (try dsimp only); (try k_lift B'); (try k_fold))
  w_strict (k_steps)
  dsimp only at hret
  w_strict (all_goals (refine' cb_retI (Q := Q) hret ?e1 ?e2 ?e3; (case e2 => k_asm); (case e3 => first | k_asm | (refine' cb_drop ?cbN ?cbS; (case cbN => assumption); (case cbS => kcj_all))); (case e1 => with_reducible first | exact Mine.dl_tree_pt (by assumption) (by assumption) (by assumption) (by omega) | exact Mine.dl_tree_nt (by assumption) (by assumption) (by assumption) (by omega) | exact Mine.dl_tree_pz (by assumption) (by assumption) (by omega) | exact Mine.dl_tree_nz (by assumption) (by assumption) (by omega))))

end
section
open PySem PySem.W PyProof.Rows
namespace Mine
/-- a call that hands back a new pair of ints -/
def ClT (prog : Program) (w : World) (K : Frag) (p : Program) (loose : List Str) (mean : ExcName → Option Value) (mg mb : Str → Option Value) (f : Addr) (n : Nat) (pre : Prop) (vs : List Value) (R : Int → Int → Prop) : Prop :=
  ∀ (news : List (Addr × Obj)) (dp un : Nat) (gd : Option (List Code)) (cn : Str) (cs : Scope) (a : Addr) (ccd : Value) (cl : List (Str × Addr)) (outer : List Env) (A₀ : Around) (base h₀ : Heap) (L : Addr) (m : Str → Option Value) (s : Shared) (Q E : Value → Shared → Prop),
    Below A₀ base outer h₀ → Fr h₀ L s.heap m → K.In h₀ → News h₀ L s.heap news → Top p loose mean mg mb h₀ → cs.kind = .function →
    pre → dp + n < recursionLimit → un + 8 * n < cLine →
    (∀ (D : Addr) (v₁ v₂ : Int) (t₁ t₂ : Tok) (c : Nat) (h' : Heap) (tk' : Nat), R v₁ v₂ → Fr h₀ L h' m → News h₀ L h' ((D, ({ cls := .type "tuple", data := .seq #[.int v₁ t₁, .int v₂ t₂] c } : Obj)) :: news) → Q (.ref D) { s with heap := h', toks := tk' }) →
    wpAny (model prog w) (ktrTop dp un gd cn cs L a ccd cl outer) (call (.ref f) vs) Q E s
theorem ClT.use {prog : Program} {w : World} {K : Frag} {p : Program} {loose : List Str} {mean : ExcName → Option Value} {mg mb : Str → Option Value} {f : Addr} {n : Nat} {pre : Prop} {vs : List Value} {R : Int → Int → Prop}
    {news : List (Addr × Obj)} {dp un : Nat} {gd : Option (List Code)} {cn : Str} {cs : Scope} {a : Addr} {ccd : Value} {cl : List (Str × Addr)} {outer : List Env} {A₀ : Around} {base h₀ : Heap} {L : Addr} {m : Str → Option Value} {s : Shared} {Q E : Value → Shared → Prop}
    (B : Below A₀ base outer h₀) (F : Fr h₀ L s.heap m) (X : K.In h₀) (N : News h₀ L s.heap news) (T : Top p loose mean mg mb h₀) (hk : cs.kind = .function) (C : ClT prog w K p loose mean mg mb f n pre vs R)
    (hp : pre) (hd : dp + n < recursionLimit) (hu : un + 8 * n < cLine)
    (ret : ∀ (D : Addr) (v₁ v₂ : Int) (t₁ t₂ : Tok) (c : Nat) (h' : Heap) (tk' : Nat), R v₁ v₂ → Fr h₀ L h' m → News h₀ L h' ((D, ({ cls := .type "tuple", data := .seq #[.int v₁ t₁, .int v₂ t₂] c } : Obj)) :: news) → Q (.ref D) { s with heap := h', toks := tk' }) :
    wpAny (model prog w) (ktrTop dp un gd cn cs L a ccd cl outer) (call (.ref f) vs) Q E s := C _ _ _ _ _ _ _ _ _ _ _ _ _ _ _ _ _ _ B F X N T hk hp hd hu ret
end Mine
local macro_rules | `(tactic| walk_at $s:str) => `(tactic| k_extra $s)
local macro_rules | `(tactic| l_fact) => `(tactic| k_extra "l_fact")
local macro_rules | `(tactic| bits_by_make) => `(tactic| k_extra "bits_by_make")
local macro_rules | `(tactic| kc_post) => `(tactic| k_extra "kc_post")
set_option maxRecDepth 100000 in
set_option maxHeartbeats 4000000 in
theorem Mine.dexp8 (w : World) (mean : ExcName → Option Value) (mg mb : Str → Option Value) (c p : Int) (tc te tp : Tok) :
    Mine.ClT Challenge.rw_dn0125_08.row.prog w (Mine.hd08.heap_1 w.params) Mine.vw (looseW Mine.vw Mine.ls) mean mg mb 97 3 (Mine.DxPre c p) [.int c tc, .int (-(p + 1)) te, .int (p + 1) tp] (Mine.DxR c p) := by
  unfold Mine.ClT
  k_fill
  k_with_none
  k_with "execs cons" => (k_here; (try dsimp only); k_gentoks)
  k_with "call ref" => (k_here; (with_reducible show wpAny _ _ (call (Value.ref 28) [Value.int _ _, Value.int _ _]) _ _ _); (k_dflt (refine' Mine.Cl.use ?k1 ?k2 ?k3 ?k4 ?k5 ?kK (Mine.rsn8 _ _ _ _ _ _ _ _) ?kp ?kd ?ku ?_; (case k1 => k_asm); (case k2 => k_asm); (case k3 => k_asm); (case k4 => k_asm); (case k5 => k_asm); (case kK => first | exact rfl | assumption); (case kp => first | ((try dsimp only); first | assumption | omega | l_fact)); (case kd => ktr_room); (case ku => ktr_units); intro t9 h9 tk9 F9 N9; (try dsimp only); (try k_fold))))
  k_with "call ref" => (k_here; (with_reducible show wpAny _ _ (call (Value.ref 35) [Value.int _ _, Value.int _ _]) _ _ _); (k_dflt (refine' Mine.Cl.use ?k1 ?k2 ?k3 ?k4 ?k5 ?kK (Mine.div8 _ _ _ _ _ _ _ _) ?kp ?kd ?ku ?_; (case k1 => k_asm); (case k2 => k_asm); (case k3 => k_asm); (case k4 => k_asm); (case k5 => k_asm); (case kK => first | exact rfl | assumption); (case kp => first | ((try dsimp only); first | assumption | omega | l_fact)); (case kd => ktr_room); (case ku => ktr_units); intro t9 h9 tk9 F9 N9; (try dsimp only); (try k_fold))))
  k_with "call ref" => (k_here; (with_reducible show wpAny _ _ (call (Value.ref 21) [Value.int _ _, Value.int _ _]) _ _ _); (k_dflt (refine' Mine.Cl.use ?k1 ?k2 ?k3 ?k4 ?k5 ?kK (Mine.sq8 _ _ _ _ _ _ _ _) ?kp ?kd ?ku ?_; (case k1 => k_asm); (case k2 => k_asm); (case k3 => k_asm); (case k4 => k_asm); (case k5 => k_asm); (case kK => first | exact rfl | assumption); (case kp => first | ((try dsimp only); first | assumption | omega | l_fact)); (case kd => ktr_room); (case ku => ktr_units); intro t9 h9 tk9 F9 N9; (try dsimp only); (try k_fold))))
  k_with "call ref" => (k_here; (with_reducible show wpAny _ _ (call (Value.ref 82) [Value.int _ _]) _ _ _); (k_dflt (refine' Mine.Cl.use ?k1 ?k2 ?k3 ?k4 ?k5 ?kK (Mine.ten8 _ _ _ _ _ _) ?kp ?kd ?ku ?_; (case k1 => k_asm); (case k2 => k_asm); (case k3 => k_asm); (case k4 => k_asm); (case k5 => k_asm); (case kK => first | exact rfl | assumption); (case kp => omega); (case kd => ktr_room); (case ku => ktr_units); intro t9 h9 tk9 F9 N9; (try dsimp only); (try k_fold))))
  k_with "call ref" => (k_here; (with_reducible show wpAny _ _ (call (Value.ref 90) [Value.int _ _, Value.int _ _]) _ _ _); (k_dflt (refine' Mine.Cl.use ?k1 ?k2 ?k3 ?k4 ?k5 ?kK (Mine.iexp8 _ _ _ _ _ _ _ _) ?kp ?kd ?ku ?_; (case k1 => k_asm); (case k2 => k_asm); (case k3 => k_asm); (case k4 => k_asm); (case k5 => k_asm); (case kK => first | exact rfl | assumption); (case kp => exact Mine.dx_ex (by assumption) (by assumption)); (case kd => ktr_room); (case ku => ktr_units); intro t9 h9 tk9 F9 N9; (try dsimp only); (try k_fold))))
  k_with "callWith ref" => (k_here; (with_reducible show wpAny _ _ (callWith _ (Value.ref 82) _ _ []) _ _ _); k_dflt (refine' Mine.callWith_KM ?k1 ?k2 ?k3 ?_; (case k1 => k_asm); (case k2 => exact rfl); (case k3 => exact rfl); k_whole))
  k_with "binaryOp Pow int int" => (k_here; (with_reducible show wpAny _ _ (binaryOp Operator.Pow (Value.int 10 _) (Value.int _ _)) _ _ _); (with_reducible refine pow_int ?pwA ?pwB ?_); (case pwA => omega); (case pwB => exact Mine.pow10_ok (by omega)))
  k_with "bits_by_make" => first | exact Mine.bits_dxc (by assumption) | exact Mine.bits_tenQ _ | ((with_reducible refine Mine.bits_ten ?_); omega) | fail "no own bits"
  k_with "call type:str" => (k_here; (with_reducible refine P.str_of_int (Mine.str_small (Mine.bits_dxc (by assumption)) (by decide)) ?_))
  k_with "call builtin:len" => (k_here; (with_reducible show wpAny _ _ (call (Value.builtin "len") [Value.str (PySem.Str.ofString (toString (_ : Int))) _]) _ _ _); (with_reducible refine Mine.len_x (by assumption) ?_); intro D' hD' hD1' hD2')
  k_with "call builtin:max" => (k_here; (rename Fr _ _ _ _ => lF'); (rename News _ _ _ _ => lN'); (with_reducible refine Mine.max_x (by assumption) (by assumption) ?mxh lF' lN' ?_); (case mxh => with_unfolding_all rfl); clear lF' lN'; intro x' hx' hx1' hx2' t' h' tk' F' N')
  k_with "call builtin:divmod" => (k_here; (with_reducible show wpAny _ _ (call (Value.builtin _) [Value.int _ _, Value.int (Mine.tenQ _) _]) _ _ _); (refine divmod_N (by assumption) (by assumption) ?dvA ?_ ?dvB); (case dvA => exact And.left (Mine.tenQ_dv (by omega) (by omega))); (case dvB => exact Or.inl (PyProof.noPylong_of_log2 (And.right (Mine.tenQ_dv (by omega) (by omega))))); intro h' F' N')
  k_with "l_fact" => first | ((with_reducible refine Mine.ten_dv ?_); omega) | ((with_reducible refine Mine.dv_small ?_ ?_) <;> omega) | fail "no own fact"
  intro news dp un gd cn cs a ccd cl outer A₀ base h₀ L m s Q E B F X N T hk hq hd hu hret
  have hp1 := hq.p1
  have hp2 := hq.p2
  refine wpAny_call ?_
  k_dflt (refine' code_def ?k1 ?k2 ?k3 ?k4 ?k5 ?kA ?kF ?kK ?k6 ?k7 ?k8 ?k9 ?kB ?_ ?c2 ?c3 ?c4 ?c5; (case kA => exact rfl); (case kF => exact rfl); (case kK => assumption); (case k1 => k_asm); (case k2 => k_asm); (case k3 => k_asm); (case k4 => k_asm); (case k5 => k_asm); (case k6 => k_is); (case k7 => k_is); (case k8 => ktr_room); (case k9 => first | exact BindsTo.of_eq rfl | exact binds_K (by k_in) rfl (by k_is) rfl rfl rfl); (case c5 => decide); (case kB => exact locs rfl); (case c2 => exact rfl); (case c3 => exact rfl); (case c4 => exact rfl); k_whole; intro g' L' h' FG' F' N' B' X' T'; (try dsimp only); (try k_lift B'); (try k_fold))
  w_strict (k_steps)
  w_strict (all_goals (exact hret _ _ _ _ _ _ _ _ (Mine.dx_end (by assumption)) (by k_asm) (by first | k_asm | (refine' cb_drop ?cbN ?cbS; (case cbN => assumption); (case cbS => kcj_all)))))

end
section
open PySem PySem.W PyProof.Rows
local macro_rules | `(tactic| walk_at $s:str) => `(tactic| k_extra $s)
local macro_rules | `(tactic| l_fact) => `(tactic| k_extra "l_fact")
local macro_rules | `(tactic| bits_by_make) => `(tactic| k_extra "bits_by_make")
local macro_rules | `(tactic| kc_post) => `(tactic| k_extra "kc_post")
set_option maxRecDepth 100000 in
set_option maxHeartbeats 4000000 in
theorem Mine.dpow8 (w : World) (mean : ExcName → Option Value) (mg mb : Str → Option Value) (xc xe yc ye p : Int) (ta tb tc td te : Tok) :
    Mine.ClT Challenge.rw_dn0125_08.row.prog w (Mine.hd08.heap_1 w.params) Mine.vw (looseW Mine.vw Mine.ls) mean mg mb 104 5 (Mine.DpPre xc xe yc ye p) [.int xc ta, .int xe tb, .int yc tc, .int ye td, .int p te] (Mine.DpR xc xe yc ye p) := by
  unfold Mine.ClT
  k_fill
  k_with_none
  k_with "execs cons" => (k_here; (try dsimp only); k_gentoks)
  k_with "call ref" => (k_here; (with_reducible show wpAny _ _ (call (Value.ref 28) [Value.int _ _, Value.int _ _]) _ _ _); (k_dflt (refine' Mine.Cl.use ?k1 ?k2 ?k3 ?k4 ?k5 ?kK (Mine.rsn8 _ _ _ _ _ _ _ _) ?kp ?kd ?ku ?_; (case k1 => k_asm); (case k2 => k_asm); (case k3 => k_asm); (case k4 => k_asm); (case k5 => k_asm); (case kK => first | exact rfl | assumption); (case kp => first | ((try dsimp only); first | assumption | omega | l_fact)); (case kd => ktr_room); (case ku => ktr_units); intro t9 h9 tk9 F9 N9; (try dsimp only); (try k_fold))))
  k_with "call ref" => (k_here; (with_reducible show wpAny _ _ (call (Value.ref 35) [Value.int _ _, Value.int _ _]) _ _ _); (k_dflt (refine' Mine.Cl.use ?k1 ?k2 ?k3 ?k4 ?k5 ?kK (Mine.div8 _ _ _ _ _ _ _ _) ?kp ?kd ?ku ?_; (case k1 => k_asm); (case k2 => k_asm); (case k3 => k_asm); (case k4 => k_asm); (case k5 => k_asm); (case kK => first | exact rfl | assumption); (case kp => first | ((try dsimp only); first | assumption | omega | l_fact)); (case kd => ktr_room); (case ku => ktr_units); intro t9 h9 tk9 F9 N9; (try dsimp only); (try k_fold))))
  k_with "call ref" => (k_here; (with_reducible show wpAny _ _ (call (Value.ref 21) [Value.int _ _, Value.int _ _]) _ _ _); (k_dflt (refine' Mine.Cl.use ?k1 ?k2 ?k3 ?k4 ?k5 ?kK (Mine.sq8 _ _ _ _ _ _ _ _) ?kp ?kd ?ku ?_; (case k1 => k_asm); (case k2 => k_asm); (case k3 => k_asm); (case k4 => k_asm); (case k5 => k_asm); (case kK => first | exact rfl | assumption); (case kp => first | ((try dsimp only); first | assumption | omega | l_fact)); (case kd => ktr_room); (case ku => ktr_units); intro t9 h9 tk9 F9 N9; (try dsimp only); (try k_fold))))
  k_with "call ref" => (k_here; (with_reducible show wpAny _ _ (call (Value.ref 50) [Value.int _ _, Value.int _ _, Value.int _ _]) _ _ _); (k_dflt (refine' Mine.Cl.use ?k1 ?k2 ?k3 ?k4 ?k5 ?kK (Mine.dlog8 _ _ _ _ _ _ _ _ _ _) ?kp ?kd ?ku ?_; (case k1 => k_asm); (case k2 => k_asm); (case k3 => k_asm); (case k4 => k_asm); (case k5 => k_asm); (case kK => first | exact rfl | assumption); (case kp => exact Mine.dp_dl (by assumption) (by assumption) (by assumption)); (case kd => ktr_room); (case ku => ktr_units); intro t9 h9 tk9 F9 N9; (try dsimp only); (try k_fold))))
  k_with "call ref" => (k_here; (with_reducible show wpAny _ _ (call (Value.ref 97) [Value.int _ _, Value.int _ _, Value.int _ _]) _ _ _); (k_dflt (refine' Mine.ClT.use ?k1 ?k2 ?k3 ?k4 ?k5 ?kK (Mine.dexp8 _ _ _ _ _ _ _ _ _) ?kp ?kd ?ku ?_; (case k1 => k_asm); (case k2 => k_asm); (case k3 => k_asm); (case k4 => k_asm); (case k5 => k_asm); (case kK => first | exact rfl | assumption); (case kp => exact Mine.dp_dx' (by assumption) (by assumption) (by assumption)); (case kd => ktr_room); (case ku => ktr_units); intro D9 v9 u9 t9 s9 c9 h9 tk9 hR9 F9 N9; (try dsimp only); (try k_fold))))
  k_with "callWith ref" => (k_here; (with_reducible show wpAny _ _ (callWith _ (Value.ref 82) _ _ []) _ _ _); k_dflt (refine' Mine.callWith_KM ?k1 ?k2 ?k3 ?_; (case k1 => k_asm); (case k2 => exact rfl); (case k3 => exact rfl); k_whole))
  k_with "binaryOp Pow int int" => (k_here; (with_reducible show wpAny _ _ (binaryOp Operator.Pow (Value.int 10 _) (Value.int _ _)) _ _ _); (with_reducible refine pow_int ?pwA ?pwB ?_); (case pwA => omega); (case pwB => exact Mine.pow10_ok (by omega)))
  k_with "bits_by_make" => first | exact Mine.bits_dlog (by assumption) (by assumption) (by assumption) | exact Mine.bits_dpy (by assumption) | ((with_reducible refine Mine.bits_ten ?_); omega) | fail "no own bits"
  k_with "call type:str" => (k_here; first | (with_reducible refine P.str_of_int (Mine.str_dpy (by assumption)) ?_) | (with_reducible refine P.str_of_int (Mine.str_small (Mine.bits_dpx (by assumption)) (by decide)) ?_))
  k_with "call builtin:len" => (k_here; (with_reducible show wpAny _ _ (call (Value.builtin "len") [Value.str (PySem.Str.ofString (toString (_ : Int))) _]) _ _ _); first | ((with_reducible refine Mine.len_y (by assumption) ?_); intro D' hD' hD1' hD2' hD3') | ((with_reducible refine Mine.len_xc (by assumption) ?_); intro D' hD' hD1' hD2'))
  k_with "l_fact" => first | ((with_reducible refine Mine.ten_dv ?_); omega) | ((with_reducible refine Mine.dv_small ?_ ?_) <;> omega) | fail "no own fact"
  intro news dp un gd cn cs a ccd cl outer A₀ base h₀ L m s Q E B F X N T hk hq hd hu hret
  have hp1 := hq.p1
  have hp2 := hq.p2
  have hy1 := hq.ye1
  have hy2 := hq.ye2
  refine wpAny_call ?_
  k_dflt (refine' code_def ?k1 ?k2 ?k3 ?k4 ?k5 ?kA ?kF ?kK ?k6 ?k7 ?k8 ?k9 ?kB ?_ ?c2 ?c3 ?c4 ?c5; (case kA => exact rfl); (case kF => exact rfl); (case kK => assumption); (case k1 => k_asm); (case k2 => k_asm); (case k3 => k_asm); (case k4 => k_asm); (case k5 => k_asm); (case k6 => k_is); (case k7 => k_is); (case k8 => ktr_room); (case k9 => first | exact BindsTo.of_eq rfl | exact binds_K (by k_in) rfl (by k_is) rfl rfl rfl); (case c5 => decide); (case kB => exact locs rfl); (case c2 => exact rfl); (case c3 => exact rfl); (case c4 => exact rfl); k_whole; intro g' L' h' FG' F' N' B' X' T'; (try dsimp only); (try k_lift B'); (try k_fold))
  w_strict (k_steps)
  w_strict (all_goals (first | exact hret _ _ _ _ _ _ _ _ (Mine.dp_r3 (by assumption) (by assumption) (by assumption)) (by k_asm) (by first | k_asm | (refine' cb_drop ?cbN ?cbS; (case cbN => assumption); (case cbS => kcj_all))) | exact hret _ _ _ _ _ _ _ _ (Mine.dp_r1 (by assumption) (by assumption) (by assumption) (by assumption)) (by k_asm) (by first | k_asm | (refine' cb_drop ?cbN ?cbS; (case cbN => assumption); (case cbS => kcj_all))) | exact hret _ _ _ _ _ _ _ _ (Mine.dp_r2 (by assumption) (by assumption) (by assumption) (by assumption)) (by k_asm) (by first | k_asm | (refine' cb_drop ?cbN ?cbS; (case cbN => assumption); (case cbS => kcj_all)))))

end
section
open PySem PySem.W PyProof.Rows
local macro_rules | `(tactic| walk_at $s:str) => `(tactic| k_extra $s)
local macro_rules | `(tactic| l_fact) => `(tactic| k_extra "l_fact")
local macro_rules | `(tactic| bits_by_make) => `(tactic| k_extra "bits_by_make")
local macro_rules | `(tactic| kc_post) => `(tactic| k_extra "kc_post")
local macro_rules | `(tactic| k_qdec) => `(tactic| fail)
set_option maxRecDepth 100000 in
set_option maxHeartbeats 8000000 in
theorem PySem.Challenge.cw_dn0125_08_holds : PySem.Challenge.rw_dn0125_08.Holds := by
  refine Mine.hd08 ?_
  k_with_none
  k_with "execs cons" => (k_here; (try dsimp only); k_gentoks)
  k_with "assign Tuple cons ref" => (k_here; (obtain ⟨a', b', m', j', g', n', t1', t2', t3', t4', t5', t6', e'⟩ := Mine.six_of (by assumption)); subst e')
  k_with "exec If Compare cons cons" => (k_here; (with_reducible show wpAny _ _ (exec (Stmt.If (Expr.Compare (Expr.BinOp (Expr.Name (Str.ofString "near") _) _ _ _) _ _ _) _ _ _) _) _ _ _); (fail_if_success (rename Mine.Joined => x9)); (rename Fr _ _ _ _ => lF'); (rename News _ _ _ _ => lN'); (refine Mine.join_x lF' lN' ?_ ?_); (rotate_left); (clear lF' lN'); (intro xc' xe' t' u' h' tk' D' F' N'); (rotate_left); (intro J'))
  k_with "execs nil" => (k_here; (with_reducible refine wpAny_execs_nil ?_))
  k_with "JoinX" => ((rename Fr _ _ _ _ => lF'); (rename News _ _ _ _ => lN'); (k_dflt (refine' Mine.join_end lF' lN' ?jx ?je ?jr ?jn ?jd; (case jx => exact rfl); (case je => exact rfl); (case jr => (intro y9 h19 h29; (simp only [if_neg h19, if_neg h29]))); (case jn => kcj_all); (case jd => with_reducible first | exact Mine.dom_b (by assumption) (by assumption) (by assumption) (by assumption) (by assumption) | exact Mine.dom_a (by assumption) (by assumption) (by assumption) (by assumption) (fun q => absurd (And.right q) (by assumption)) | exact Mine.dom_a (by assumption) (by assumption) (by assumption) (by assumption) (fun q => absurd (And.left q) (by assumption)) | exact Mine.dom_c (by assumption) (by assumption) (by assumption) (by assumption) | exact Mine.dom_d (by assumption) (by assumption) (by assumption) (by assumption)))))
  k_with "call builtin:max" => (k_here; (rename Fr _ _ _ _ => lF'); (rename News _ _ _ _ => lN'); (with_reducible refine Mine.max_r ?mxh lF' lN' ?_); (case mxh => with_unfolding_all rfl); clear lF' lN'; intro t' h' tk' F' N')
  k_with "binaryOp Sub int int" => (k_here; first | ((with_reducible refine Mine.ye_sub ?_); intro y' hy1' hy2') | ((with_reducible refine Mine.xe_sub ?_); intro y' hy1' hy2') | ((with_reducible refine Mine.xe_sub2 ?_); intro y' hy1' hy2'))
  k_with "binaryOp Add int int" => (k_here; first | ((with_reducible refine Mine.xc_add ?_); intro y' hy1' hy2') | ((with_reducible refine Mine.r_add ?_); intro y' hy1' hy2') | ((with_reducible refine Mine.p_add ?_); intro y' hy1' hy2') | ((with_reducible refine Mine.y_add ?_); intro y' hy1' hy2'))
  k_with "binaryOp Mod int int" => (k_here; (with_reducible refine Mine.mod_ten ?_))
  k_with "exec If Compare cons nil" => (k_here; (with_reducible show wpAny _ _ (exec (Stmt.If (Expr.Compare (Expr.Name (Str.ofString "m") _) _ _ _) _ _ _) _) _ _ _); (fail_if_success (rename Mine.JoinedY => x9)); (rename Fr _ _ _ _ => lF'); (rename News _ _ _ _ => lN'); (refine Mine.join_y (by assumption) lF' lN' ?_ ?_); (rotate_left); (clear lF' lN'); (intro yc' t' h' tk' hy0' hyb' F' N'); (rotate_left); (intro J'))
  k_with "JoinY" => ((rename Fr _ _ _ _ => lF'); (rename News _ _ _ _ => lN'); (k_dflt (refine' Mine.join_endY lF' lN' ?jx ?jr ?jn ?j0 ?jb; (case jx => exact rfl); (case jr => (intro y9 h19; (simp only [if_neg h19]))); (case jn => kcj_all); (case j0 => omega); (case jb => omega))))
  k_with "call ref" => (k_here; (with_reducible show wpAny _ _ (call (Value.ref 104) [Value.int _ _, Value.int _ _, Value.int _ _, Value.int _ _, Value.int _ _]) _ _ _); (k_dflt (refine' Mine.ClT.use ?k1 ?k2 ?k3 ?k4 ?k5 ?kK (Mine.dpow8 _ _ _ _ _ _ _ _ _ _ _ _ _ _) ?kp ?kd ?ku ?_; (case k1 => k_asm); (case k2 => k_asm); (case k3 => k_asm); (case k4 => k_asm); (case k5 => k_asm); (case kK => first | exact rfl | assumption); (case kp => exact Mine.mk_dp (by assumption) (by assumption) (by assumption) (by assumption) (by assumption) (by assumption) (by assumption)); (case kd => ktr_room); (case ku => ktr_units); intro D9 v9 u9 t9 s9 c9 h9 tk9 hR9 F9 N9; (have hA9 := Mine.Aft.mk (Mine.dp_pre_of hR9 (by assumption) (by assumption) (by assumption) (by assumption) (by assumption) (by assumption) (by assumption)) hR9); (obtain ⟨hf19, hf29, hf39, hf49, hf59, hf69, hf79⟩ := Mine.Aft.facts hA9); (try dsimp only); (try k_fold))))
  k_with "binaryOp Pow int int" => (k_here; (with_reducible refine pow_int ?pwA ?pwB ?_); (case pwA => first | omega | (with_reducible exact And.left (Mine.Aft.tb (by assumption)))); (case pwB => with_reducible first | exact Mine.pow_ok (Mine.Aft.bf1 (by assumption)) (by omega) (And.left (Mine.Aft.nb (by assumption))) (by decide) | exact Mine.pow_ok (Mine.Aft.bf1 (by assumption)) (by omega) (And.right (Mine.Aft.nb (by assumption))) (by decide) | exact Mine.pow_ok (Mine.Aft.bf2 (by assumption)) (by omega) (And.left (Mine.Aft.nb (by assumption))) (by decide) | exact Mine.pow_ok (Mine.Aft.bf2 (by assumption)) (by omega) (And.right (Mine.Aft.nb (by assumption))) (by decide) | exact Mine.pow_ok (And.left (Mine.Aft.bfi (by assumption))) (And.left (Mine.Aft.tb (by assumption))) (And.right (Mine.Aft.tb (by assumption))) (by decide) | exact Mine.pow_ok (And.left (And.right (Mine.Aft.bfi (by assumption)))) (And.left (Mine.Aft.tb (by assumption))) (And.right (Mine.Aft.tb (by assumption))) (by decide) | exact Mine.pow_ok (And.right (And.right (Mine.Aft.bfi (by assumption)))) (And.left (Mine.Aft.tb (by assumption))) (And.right (Mine.Aft.tb (by assumption))) (by decide) | exact Mine.Aft.pw1 (by assumption) (Mine.Aft.bc1 (by assumption)) (Or.inl rfl) | exact Mine.Aft.pw1 (by assumption) (Mine.Aft.bc2 (by assumption)) (Or.inl rfl) | exact Mine.Aft.pw2 (by assumption) (Or.inr rfl)))
  k_with "binaryOp Pow int int" => (k_here; (with_reducible show wpAny _ _ (binaryOp Operator.Pow (Value.int 10 _) (Value.int _ _)) _ _ _); (with_reducible refine pow_int ?pwA ?pwB ?_); (case pwA => omega); (case pwB => exact Mine.pow10_big (by omega)))
  k_with "bits_by_make" => first | ((rename Mine.Aft _ _ _ _ _ _ _ => hA'); with_reducible first | exact Mine.Aft.bc hA' | exact Mine.Aft.bc1 hA' | exact Mine.Aft.bc2 hA' | exact Mine.Aft.by1 hA' | exact Mine.Aft.bx hA' | ((refine Mine.bits_big ?_); omega) | exact And.left (Mine.Aft.pb hA' (by assumption)) | exact And.right (Mine.Aft.pb hA' (by assumption)) | exact Mine.bits_pow (And.left (Mine.Aft.bfi hA')) (And.right (Mine.Aft.tb hA')) (by decide) | exact Mine.bits_pow (And.left (And.right (Mine.Aft.bfi hA'))) (And.right (Mine.Aft.tb hA')) (by decide) | exact Mine.bits_pow (And.right (And.right (Mine.Aft.bfi hA'))) (And.right (Mine.Aft.tb hA')) (by decide) | exact Mine.Aft.rb1 hA' (Mine.Aft.bc1 hA') (Or.inl rfl) | exact Mine.Aft.rb1 hA' (Mine.Aft.bc2 hA') (Or.inl rfl) | exact Mine.Aft.rb2 hA' (Or.inr rfl)) | ((with_reducible refine Mine.bits_big ?_); omega) | fail "no own bits"
  k_with "exec If Call cons nil" => (k_here; (with_reducible show wpAny _ _ (exec (Stmt.If (Expr.Call (Expr.Name (Str.ofString "_law_is_less") _) _ _ _) _ _ _) _) _ _ _); (fail_if_success (rename Mine.JoinedZ => x9)); (rename Fr _ _ _ _ => lF'); (rename News _ _ _ _ => lN'); (refine Mine.join_z lF' lN' ?_ ?_); (rotate_left); (clear lF' lN'); (intro h' tk' F' N'); (rotate_left); (intro J'))
  k_with "JoinZ" => first | ((rename Fr _ _ _ _ => lF'); (rename News _ _ _ _ => lN'); (k_dflt (refine' Mine.join_endZ lF' lN' ?jn; (case jn => kcj_all)))) | (exfalso; with_reducible (exact Mine.z_near (by assumption) (by assumption) (by assumption) (by assumption) (by assumption)))
  k_with "exec Assign cons Call" => (k_here; (with_reducible show wpAny _ _ (exec (Stmt.Assign [Expr.Name (Str.ofString "power") _] _ _) _) _ _ _); (fail_if_success (rename Mine.JoinedP => x9)); (rename Fr _ _ _ _ => lF'); (rename News _ _ _ _ => lN'); (refine Mine.join_p (by assumption) lF' lN' ?_ ?_); (rotate_left); (clear lF' lN'); (intro D' v' w' t' u' k' h' tk' R' F' N'); (rotate_left); (intro J'))
  k_with "JoinP" => ((rename Fr _ _ _ _ => lF'); (rename News _ _ _ _ => lN'); (k_dflt (refine' Mine.join_endP lF' lN' ?jd ?jn ?jr; (case jd => exact List.Mem.head _); (case jn => kcj_all); (case jr => with_reducible first | exact Mine.pw_rn (by assumption) | exact Mine.pw_rp (by assumption)))))
  k_with "kc_post" => ((refine postW_of (by wrow_shape) (w_eq_bool (w_res rfl) w_lit) ?_); with_reducible (first | exact absurd (Mine.z_low (by assumption) (by assumption)) (by assumption) | (rw [decide_eq_true (Mine.z_high (by assumption) (by assumption)), beq_self_eq_true]; done)))
  w_strict k_go
end
