import PyProof.Rows.All
import Wide.All
import OpenK.AllK
import Wide.FinOn
import PySem.Challenge.RW_dn0125_01
open PySem PySem.W PyProof.Rows
set_option Elab.async false
namespace Mine
def stick (left size : Int) : Int := if 0 < left.fmod (2 ^ size.toNat) ∧ (left.fdiv (2 ^ size.toNat)).fmod 2 = 0 then left.fdiv (2 ^ size.toNat) + 1 else left.fdiv (2 ^ size.toNat)
def sticky (n : Int) (pre : List Int) : Int := pre.foldl stick n
def rsn (x s : Int) : Int := x.fdiv (2 ^ s.toNat) + if 2 ^ s.toNat < 2 * x.fmod (2 ^ s.toNat) + (x.fdiv (2 ^ s.toNat)).fmod 2 then 1 else 0

theorem pw_pos (k : Nat) : (0 : Int) < 2 ^ k := Int.pow_pos (by decide)
theorem fd {x p : Int} (h : 0 < p) : x.fdiv p = x / p := Int.fdiv_eq_ediv_of_nonneg _ (by omega)
theorem fm {x p : Int} (h : 0 < p) : x.fmod p = x % p := Int.fmod_eq_emod_of_nonneg _ (by omega)
/-- quotient and remainder are known by their equation -/
theorem qr {x p q r : Int} (hp : 0 < p) (e : x = q * p + r) (h0 : 0 ≤ r) (h1 : r < p) : x / p = q ∧ x % p = r := by
  have := (Int.ediv_emod_unique hp (a := x) (r := r) (q := q)).mpr ⟨by rw [e, Int.mul_comm q p]; omega, h0, h1⟩
  exact this
theorem stick_eq {x s q r : Int} (e : x = q * 2 ^ s.toNat + r) (h0 : 0 ≤ r) (h1 : r < 2 ^ s.toNat) : stick x s = q + (if 0 < r ∧ q % 2 = 0 then 1 else 0) := by
  obtain ⟨a, b⟩ := qr (pw_pos _) e h0 h1
  unfold stick
  rw [fd (pw_pos _), fm (pw_pos _), fm (by decide), a, b]
  split <;> omega
theorem rsn_eq {x s q r : Int} (e : x = q * 2 ^ s.toNat + r) (h0 : 0 ≤ r) (h1 : r < 2 ^ s.toNat) : rsn x s = q + (if 2 ^ s.toNat < 2 * r + q % 2 then 1 else 0) := by
  obtain ⟨a, b⟩ := qr (pw_pos _) e h0 h1
  unfold rsn
  rw [fd (pw_pos _), fm (pw_pos _), fm (by decide), a, b]
theorem split_at (x : Int) (k : Nat) : ∃ q r : Int, x = q * 2 ^ k + r ∧ 0 ≤ r ∧ r < 2 ^ k := by
  have hp := pw_pos k
  refine ⟨x / 2 ^ k, x % 2 ^ k, ?_, Int.emod_nonneg _ (by omega), Int.emod_lt_of_pos _ hp⟩
  have := Int.mul_ediv_add_emod x (2 ^ k)
  rw [Int.mul_comm] at this
  omega
theorem stick_stick {n a b : Int} (ha : 0 ≤ a) (hb : 0 ≤ b) : stick (stick n a) b = stick n (a + b) := by
  obtain ⟨q1, r1, e1, h1, h2⟩ := split_at n a.toNat
  obtain ⟨q, r2, e2, h3, h4⟩ := split_at q1 b.toNat
  have hs : (a + b).toNat = a.toNat + b.toNat := by omega
  have hA := pw_pos a.toNat
  have hB := pw_pos b.toNat
  have eP : (2 : Int) ^ (a + b).toNat = 2 ^ b.toNat * 2 ^ a.toNat := by rw [hs, Int.pow_add, Int.mul_comm]
  have l1 : (r2 + 1) * 2 ^ a.toNat ≤ 2 ^ b.toNat * 2 ^ a.toNat := Int.mul_le_mul_of_nonneg_right (by omega) (by omega)
  have l0 : 0 ≤ r2 * 2 ^ a.toNat := Int.mul_nonneg h3 (by omega)
  rw [Int.add_mul, Int.one_mul] at l1
  have eR : stick n (a + b) = q + (if 0 < r2 * 2 ^ a.toNat + r1 ∧ q % 2 = 0 then 1 else 0) := by
    refine stick_eq ?_ ?_ ?_
    · rw [e1, e2, eP, Int.add_mul, Int.mul_assoc]; omega
    · omega
    · rw [eP]; omega
  rw [eR, stick_eq e1 h1 h2]
  have hpos : 0 < r2 → 0 < r2 * 2 ^ a.toNat := fun h => Int.mul_pos h hA
  rcases Nat.eq_zero_or_pos b.toNat with hb0 | hb0
  · rw [hb0] at e2 h4
    simp only [Int.pow_zero, Int.mul_one] at e2 h4
    have : r2 = 0 := by omega
    subst this
    have : q1 = q := by omega
    subst this
    rw [stick_eq (q := q1 + (if 0 < r1 ∧ q1 % 2 = 0 then 1 else 0)) (r := 0) (by rw [hb0]; simp) (by omega) (by rw [hb0]; simp)]
    simp
  · obtain ⟨k, hk⟩ : ∃ k, b.toNat = k + 1 := ⟨b.toNat - 1, by omega⟩
    have hB2 : (2 : Int) ^ b.toNat = 2 * 2 ^ k := by rw [hk, Int.pow_succ, Int.mul_comm]
    have hq : q * 2 ^ b.toNat = 2 * (q * 2 ^ k) := by rw [hB2, ← Int.mul_assoc, Int.mul_comm q 2, Int.mul_assoc]
    generalize q * 2 ^ k = z at hq
    rw [hq] at e2
    generalize hBB : (2 : Int) ^ b.toNat = B at *
    generalize (2 : Int) ^ k = K at *
    rw [stick_eq (q := q) (r := r2 + (if 0 < r1 ∧ q1 % 2 = 0 then 1 else 0)) (by rw [hBB, hq]; split <;> omega) (by split <;> omega) (by rw [hBB]; split <;> omega)]
    by_cases h0 : 0 < r2
    · have := hpos h0
      congr 1
      repeat' split
      all_goals omega
    · have : r2 = 0 := by omega
      subst this
      congr 1
      simp only [Int.zero_mul, Int.zero_add]
      repeat' split
      all_goals omega
theorem rsn_stick {n s : Int} (hs : 0 ≤ s) : rsn (stick n s) 2 = rsn n (2 + s) := by
  obtain ⟨q1, r1, e1, h1, h2⟩ := split_at n s.toNat
  obtain ⟨q, r2, e2, h3, h4⟩ := split_at q1 2
  have hA := pw_pos s.toNat
  have eP : (2 : Int) ^ (2 + s).toNat = 4 * 2 ^ s.toNat := by
    rw [show (2 + s).toNat = 2 + s.toNat by omega, Int.pow_add]; rfl
  simp only [show (2 : Int) ^ 2 = 4 from rfl] at e2 h4
  have eR : rsn n (2 + s) = q + (if 2 ^ (2 + s).toNat < 2 * (r2 * 2 ^ s.toNat + r1) + q % 2 then 1 else 0) := by
    refine rsn_eq ?_ ?_ ?_
    · rw [e1, e2, eP, Int.add_mul, Int.mul_assoc]; omega
    · have := Int.mul_nonneg h3 (Int.le_of_lt hA); omega
    · have l1 : (r2 + 1) * 2 ^ s.toNat ≤ 4 * 2 ^ s.toNat := Int.mul_le_mul_of_nonneg_right (by omega) (by omega)
      rw [Int.add_mul, Int.one_mul] at l1
      rw [eP]; omega
  rw [eR, stick_eq e1 h1 h2, eP]
  rw [rsn_eq (q := q) (r := r2 + (if 0 < r1 ∧ q1 % 2 = 0 then 1 else 0)) (by rw [show ((2 : Int) ^ Int.toNat 2) = 4 from rfl]; split <;> omega) (by split <;> omega) (by rw [show ((2 : Int) ^ Int.toNat 2) = 4 from rfl]; split <;> omega)]
  rw [show ((2 : Int) ^ Int.toNat 2) = 4 from rfl]
  generalize (2 : Int) ^ s.toNat = A at *
  congr 1
  have : r2 = 0 ∨ r2 = 1 ∨ r2 = 2 ∨ r2 = 3 := by omega
  rcases this with rfl | rfl | rfl | rfl
  all_goals (repeat' split) <;> omega
theorem rsn_near (n s : Int) : ¬ (2 ^ s.toNat < 2 * ((n - rsn n s * 2 ^ s.toNat).natAbs : Int)) := by
  obtain ⟨q, r, e, h0, h1⟩ := split_at n s.toNat
  rw [rsn_eq e h0 h1]
  have : n - (q + if 2 ^ s.toNat < 2 * r + q % 2 then 1 else 0) * 2 ^ s.toNat = r - (if 2 ^ s.toNat < 2 * r + q % 2 then 2 ^ s.toNat else 0) := by
    split
    · rw [Int.add_mul, Int.one_mul, e]; omega
    · rw [Int.add_zero, e]; omega
  rw [this]
  generalize (2 : Int) ^ s.toNat = A at *
  split <;> omega
theorem rsn_even (n s : Int) (h : 2 * ((n - rsn n s * 2 ^ s.toNat).natAbs : Int) = 2 ^ s.toNat) : rsn n s % 2 = 0 := by
  obtain ⟨q, r, e, h0, h1⟩ := split_at n s.toNat
  rw [rsn_eq e h0 h1] at h ⊢
  have : n - (q + if 2 ^ s.toNat < 2 * r + q % 2 then 1 else 0) * 2 ^ s.toNat = r - (if 2 ^ s.toNat < 2 * r + q % 2 then 2 ^ s.toNat else 0) := by
    split
    · rw [Int.add_mul, Int.one_mul, e]; omega
    · rw [Int.add_zero, e]; omega
  rw [this] at h
  generalize (2 : Int) ^ s.toNat = A at *
  split at h <;> split <;> omega
theorem sticky_snoc (n : Int) (pre : List Int) (k : Int) : sticky n (pre ++ [k]) = stick (sticky n pre) k := by
  simp [sticky, List.foldl_append]
theorem stick_zero (n : Int) : stick n 0 = n := by
  rw [stick_eq (q := n) (r := 0) (by simp) (by omega) (by simp)]; simp
theorem sticky_sum : ∀ (pre : List Int) (n a : Int), 0 ≤ a → (∀ x ∈ pre, 0 ≤ x) → sticky (stick n a) pre = stick n (a + pre.sum)
  | [], n, a, _, _ => by simp [sticky]
  | x :: xs, n, a, ha, h => by
    have hx := h x (List.mem_cons_self ..)
    have : sticky (stick n a) (x :: xs) = sticky (stick (stick n a) x) xs := rfl
    rw [this, stick_stick ha hx, sticky_sum xs n (a + x) (by omega) (fun y hy => h y (List.mem_cons_of_mem _ hy)), List.sum_cons, Int.add_assoc]
theorem sum_nonneg : ∀ (pre : List Int), (∀ x ∈ pre, 0 ≤ x) → 0 ≤ pre.sum
  | [], _ => by simp
  | x :: xs, h => by
    have h1 := h x (List.mem_cons_self ..)
    have h2 := sum_nonneg xs (fun y hy => h y (List.mem_cons_of_mem _ hy))
    rw [List.sum_cons]; omega
theorem main01 (n : Int) (pre : List Int) (h : ∀ x ∈ pre, 0 ≤ x) : rsn (sticky n pre) 2 = rsn n (2 + pre.sum) := by
  have := sticky_sum pre n 0 (by omega) h
  rw [stick_zero, Int.zero_add] at this
  rw [this, rsn_stick (sum_nonneg pre h)]
end Mine
namespace Mine
theorem mem_bound {xs : List Int} {n : Int} (h : n ∈ [198] ++ xs.map (fun a => a.fmod 100)) : 0 ≤ n ∧ n ≤ 198 := by
  simp only [List.mem_append, List.mem_singleton, List.mem_map] at h
  rcases h with rfl | ⟨a, _, rfl⟩
  · omega
  · rw [fm (by decide)]; omega
theorem rsn_tree (x s : Int) : (x.fdiv (2 ^ s.toNat) + if decide (1 * 2 ^ s.toNat < 2 * Builtin.bitAnd x (1 * 2 ^ s.toNat - 1) + Builtin.bitAnd (x.fdiv (2 ^ s.toNat)) 1) = true then 1 else 0) = rsn x s := by
  unfold rsn
  rw [Int.one_mul, kbt_maskF, bitAnd_m1, fm (p := 2) (by decide)]
  simp only [decide_eq_true_eq]
theorem rsn_abs (x s : Int) : (rsn x s).natAbs ≤ x.natAbs + 1 := by
  obtain ⟨q, r, e, h0, h1⟩ := split_at x s.toNat
  rw [rsn_eq e h0 h1]
  have hp := pw_pos s.toNat
  have : q.natAbs ≤ x.natAbs := by
    obtain ⟨a, _⟩ := qr hp e h0 h1
    rw [← a]; exact Int.natAbs_ediv_le_natAbs _ _
  split <;> omega
theorem bits_rsn {x s : Int} {m : Nat} (h : Builtin.Int.intBits x ≤ m) : Builtin.Int.intBits (rsn x s) ≤ m + 1 := by
  rw [PySem.intBits_le_iff] at h ⊢
  have := rsn_abs x s
  have h2 : 1 ≤ 2 ^ m := Nat.one_le_two_pow
  rw [Nat.pow_succ]; omega
def Inv (number : Int) (pre : List Int) (left bits : Int) : Prop := left = sticky number pre ∧ bits = 2 + pre.sum ∧ 2 ≤ bits ∧ bits ≤ 2 + 198 * (pre.length : Int)
theorem inv_start (number : Int) : Inv number [] number 2 := ⟨rfl, rfl, by decide, by decide⟩
theorem inv_up {number left bits n : Int} {pre xs : List Int} (h : Inv number pre left bits) (hm : n ∈ [198] ++ xs.map (fun a => a.fmod 100)) (l' : Int) (e : l' = stick left n) : Inv number (pre ++ [n]) l' (bits + n) := by
  obtain ⟨a, b, c, d⟩ := h
  have := mem_bound hm
  refine ⟨by rw [sticky_snoc, e, a], by rw [b]; simp; omega, by omega, by simp; omega⟩
theorem inv_bits {number left bits : Int} {w : List Int} (h : Inv number ([198] ++ (w.drop 2).map (fun a => a.fmod 100)) left bits) (hw : ¬ ((63 : Nat) : Int) < (w.length : Int)) : 0 ≤ bits ∧ bits ≤ 100000 := by
  obtain ⟨_, _, c, d⟩ := h
  simp only [List.length_append, List.length_cons, List.length_nil, List.length_map, List.length_drop] at d
  omega
theorem stick_a {x n : Int} (h : ¬ 0 < x.fmod (2 ^ n.toNat)) : x.fdiv (2 ^ n.toNat) = stick x n := by
  unfold stick; rw [if_neg (fun a => h a.1)]
theorem stick_b {x n : Int} (h : ¬ (x.fdiv (2 ^ n.toNat)).fmod 2 = 0) : x.fdiv (2 ^ n.toNat) = stick x n := by
  unfold stick; rw [if_neg (fun a => h a.2)]
theorem stick_c {x n : Int} (h : 0 < x.fmod (2 ^ n.toNat)) (h2 : (x.fdiv (2 ^ n.toNat)).fmod 2 = 0) : x.fdiv (2 ^ n.toNat) + 1 = stick x n := by
  unfold stick; rw [if_pos ⟨h, h2⟩]
theorem end_far {n s : Int} (h : 2 ^ s.toNat < 2 * if n - rsn n s * 2 ^ s.toNat < 0 then -(n - rsn n s * 2 ^ s.toNat) else n - rsn n s * 2 ^ s.toNat) : False := by
  apply rsn_near n s
  generalize n - rsn n s * 2 ^ s.toNat = d at h ⊢
  generalize (2 : Int) ^ s.toNat = P at h ⊢
  split at h <;> omega
theorem end_even {n s : Int} (h : (2 * if n - rsn n s * 2 ^ s.toNat < 0 then -(n - rsn n s * 2 ^ s.toNat) else n - rsn n s * 2 ^ s.toNat) = 2 ^ s.toNat) : (rsn n s).fmod 2 = 0 := by
  rw [fm (by decide)]
  apply rsn_even n s
  generalize n - rsn n s * 2 ^ s.toNat = d at h ⊢
  generalize (2 : Int) ^ s.toNat = P at h ⊢
  split at h <;> omega
theorem end_true {n left bits : Int} {w : List Int} (h : Inv n ([198] ++ w.map (fun a => a.fmod 100)) left bits) : rsn left 2 = rsn n bits := by
  obtain ⟨a, b, _⟩ := h
  rw [a, b]
  exact main01 _ _ fun x hx => (mem_bound hx).1
end Mine
local macro_rules | `(tactic| walk_at "binaryOp Add ref ref") => `(tactic| (k_here; (with_reducible show wpAny _ _ (binaryOp _ (Value.ref _) (Value.ref _)) _ _ _); (refine' kmk_add_ints ?F ?N ?a ?b ?i ?j ?_ ?z; (case F => k_asm); (case N => k_asm); (case a => kmk_list); (case b => assumption); (case i => l_ints); (case j => exact gn_ints (by assumption) (by assumption) (fun _ => rfl)); (case z => (simp only [sizeLine_eq, List.length_cons, List.length_nil, List.length_map]; omega))); intro D' ws' h' F' N' l1 hI'; (try k_lt l1); (try k_sweep)))
local macro_rules | `(tactic| walk_at "exec For Name BinOp cons nil") => `(tactic| (k_here; (rename Fr _ _ _ _ => lF'); (with_unfolding_all refine' For_invVF lF' ?k1 ?k2 ?_; (case k1 => exact rfl); (case k2 => exact rfl); k_whole)))
local macro_rules | `(tactic| l_fact) => `(tactic| exact Mine.inv_bits (by assumption) (by assumption))
local macro_rules | `(tactic| walk_at "binaryOp Pow int int") => `(tactic| (k_here; (first | (have hm9 := Mine.mem_bound (by assumption); (refine pow_int_small ?a ?b ?c ?_; (case a => exact hm9.1); (case b => (have := hm9.2; omega)); (case c => decide))) | (have hm9 := Mine.inv_bits (by assumption) (by assumption); (refine pow_int_small ?a ?b ?c ?_; (case a => exact hm9.1); (case b => (have := hm9.2; omega)); (case c => decide))))))
local macro_rules | `(tactic| bits_by_make) => `(tactic| first | ((with_reducible apply Mine.bits_rsn); bits_by_make) | ((with_reducible refine kbm_pow _ ?_); (have hm9 := Mine.inv_bits (by assumption) (by assumption)); omega) | fail "no own bits")
local macro_rules | `(tactic| kc_post) => `(tactic| ((refine postW_of (by wrow_shape) (w_eq_bool (w_res rfl) w_lit) ?_); (first | (exfalso; exact Mine.end_far (by assumption)) | (exfalso; exact absurd (Mine.end_even (by assumption)) (by assumption)) | (rw [Mine.end_true (by assumption), beq_self_eq_true]; rfl))))
set_option maxRecDepth 100000 in
set_option maxHeartbeats 8000000 in
theorem PySem.Challenge.cw_dn0125_01_holds : PySem.Challenge.rw_dn0125_01.Holds := by
  k_with "call ref" => k_call_by "_law_at" (fun (xs : List Int) (k : Int) => cellAt xs k 0) (fun (_ : List Int) (k : Int) => 0 ≤ k)
  k_with "call ref" => k_call_by "_rshift_nearest" Mine.rsn (fun (_ s : Int) => 0 ≤ s ∧ s ≤ 100000)
  k_with "tree" => first | exact Mine.rsn_tree _ _ | cell_eq
  k_with "pyIter ref" => k_state_given ["number"] (fun number pre left bits => Mine.Inv number pre left bits) "left" "bits"
  k_with "state" => first | exact Mine.inv_start _ | (refine Mine.inv_up kInv kMem _ ?_; first | exact Mine.stick_c (by assumption) (by assumption) | exact Mine.stick_a (by assumption) | exact Mine.stick_b (by assumption) | (unfold Mine.stick; simp_all; done))
  open_k
