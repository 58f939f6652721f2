import JvmDerived
import JvmDerived.Pilot.@@N@@Statement
import JvmDerived.Pilot.@@N@@Code
set_option linter.unusedVariables false
set_option linter.unusedSimpArgs false
namespace OwnFl
open Jvm.FP.Core
/-- a whole number rounded to 53 digits, ties to even -/
def own_rnN (A : Nat) : Nat := if A < 2 ^ 53 then A else nearest A (2 ^ (A.log2 - 52)) * 2 ^ (A.log2 - 52)
def own_rn (i : Int) : Int := if i < 0 then -(own_rnN i.natAbs : Int) else (own_rnN i.natAbs : Int)
theorem own_rn_neg (i : Int) : own_rn (-i) = - own_rn i := by
  unfold own_rn
  rw [Int.natAbs_neg]
  by_cases h : i < 0
  · rw [if_pos h, if_neg (by omega)]; omega
  · rw [if_neg h]
    by_cases h2 : i = 0
    · subst h2; rfl
    · rw [if_pos (by omega)]
theorem own_rn_nat (A : Nat) : own_rn (A : Int) = (own_rnN A : Int) := by
  unfold own_rn; rw [if_neg (by omega)]; rfl
theorem own_log {A n : Nat} (h1 : 2 ^ n ≤ A) (h2 : A < 2 ^ (n + 1)) : A.log2 = n := by
  have z : A ≠ 0 := by have := Nat.two_pow_pos n; omega
  have a1 := Nat.log2_self_le z
  have a2 : A < 2 ^ (A.log2 + 1) := Nat.lt_log2_self
  have b1 := (Nat.pow_lt_pow_iff_right (by decide : 1 < 2)).mp (Nat.lt_of_le_of_lt h1 a2)
  have b2 := (Nat.pow_lt_pow_iff_right (by decide : 1 < 2)).mp (Nat.lt_of_le_of_lt a1 h2)
  omega
theorem own_log_ge {A n : Nat} (h1 : 2 ^ n ≤ A) : n ≤ A.log2 := by
  have a2 : A < 2 ^ (A.log2 + 1) := Nat.lt_log2_self
  have b1 := (Nat.pow_lt_pow_iff_right (by decide : 1 < 2)).mp (Nat.lt_of_le_of_lt h1 a2)
  omega
theorem own_log_lt {A n : Nat} (z : A ≠ 0) (h2 : A < 2 ^ (n + 1)) : A.log2 ≤ n := by
  have a1 := Nat.log2_self_le z
  have b2 := (Nat.pow_lt_pow_iff_right (by decide : 1 < 2)).mp (Nat.lt_of_le_of_lt a1 h2)
  omega
theorem own_rnN_small {A : Nat} (h : A ≤ 2 ^ 53) : own_rnN A = A := by
  unfold own_rnN
  by_cases q : A < 2 ^ 53
  · rw [if_pos q]
  · have e : A = 2 ^ 53 := by omega
    subst e; decide +kernel
theorem own_rnN_exact {m w : Nat} (h : m ≤ 2 ^ 53) : own_rnN (m * 2 ^ w) = m * 2 ^ w := by
  unfold own_rnN
  split
  · rfl
  · rename_i q
    have z : m * 2 ^ w ≠ 0 := by omega
    have hm : m ≠ 0 := fun e => z (by rw [e, Nat.zero_mul])
    have d : 2 ^ ((m * 2 ^ w).log2 - 52) ∣ m * 2 ^ w := by
      by_cases e : m = 2 ^ 53
      · subst e
        rw [← Nat.pow_add]
        have : (2 ^ (53 + w)).log2 = 53 + w := own_log (Nat.le_refl _) (Nat.pow_lt_pow_right (by decide) (by omega))
        rw [this]
        exact Nat.pow_dvd_pow 2 (by omega)
      · have l : (m * 2 ^ w).log2 ≤ 52 + w := own_log_lt z (by
          rw [show 52 + w + 1 = 53 + w by omega, Nat.pow_add]; exact Nat.mul_lt_mul_of_pos_right (by omega) (Nat.two_pow_pos _))
        exact Nat.dvd_trans (Nat.pow_dvd_pow 2 (by omega)) (Nat.dvd_mul_left _ _)
    obtain ⟨k, hk⟩ := d
    generalize (m * 2 ^ w).log2 - 52 = j at hk
    rw [hk, Nat.mul_comm (2 ^ j) k, nearest_exact k (Nat.two_pow_pos _)]
theorem own_rnN_div {A N : Nat} (h : 2 ^ N ≤ A) (hN : 52 ≤ N) : 2 ^ (N - 52) ∣ own_rnN A := by
  have l := own_log_ge h
  unfold own_rnN
  split
  · rename_i q
    have : N ≤ 52 := by
      have := (Nat.pow_lt_pow_iff_right (by decide : 1 < 2)).mp (Nat.lt_of_le_of_lt h q); omega
    rw [show N - 52 = 0 by omega]; exact Nat.one_dvd _
  · exact Nat.dvd_trans (Nat.pow_dvd_pow 2 (by omega)) (Nat.dvd_mul_left _ _)
theorem own_rnN_err {A M : Nat} (h : A < 2 ^ (M + 1)) (hM : 52 ≤ M) : 2 * own_rnN A ≤ 2 * A + 2 ^ (M - 52) ∧ 2 * A ≤ 2 * own_rnN A + 2 ^ (M - 52) := by
  have pm := Nat.two_pow_pos (M - 52)
  unfold own_rnN
  split
  · omega
  · rename_i q
    have z : A ≠ 0 := by omega
    have l := own_log_lt z h
    have s := nearest_spec A (2 ^ (A.log2 - 52)) (Nat.two_pow_pos _)
    have p : 2 ^ (A.log2 - 52) ≤ 2 ^ (M - 52) := Nat.pow_le_pow_right (by decide) (by omega)
    have e1 : (2 * nearest A (2 ^ (A.log2 - 52)) + 1) * 2 ^ (A.log2 - 52) = 2 * (nearest A (2 ^ (A.log2 - 52)) * 2 ^ (A.log2 - 52)) + 2 ^ (A.log2 - 52) := by rw [Nat.add_mul, Nat.one_mul, Nat.mul_assoc]
    have e2 : 2 * nearest A (2 ^ (A.log2 - 52)) * 2 ^ (A.log2 - 52) = 2 * (nearest A (2 ^ (A.log2 - 52)) * 2 ^ (A.log2 - 52)) := Nat.mul_assoc _ _ _
    rw [e1, e2] at s
    omega
theorem own_rn_small {i : Int} (h : i.natAbs ≤ 2 ^ 53) : own_rn i = i := by
  unfold own_rn; rw [own_rnN_small h]; split <;> omega
theorem own_rn_exact {i m : Int} {w : Nat} (e : i = m * 2 ^ w) (h : m.natAbs ≤ 2 ^ 53) : own_rn i = i := by
  have n : i.natAbs = m.natAbs * 2 ^ w := by rw [e, Int.natAbs_mul, Int.natAbs_pow]; rfl
  have q : own_rnN i.natAbs = i.natAbs := by rw [n]; exact own_rnN_exact h
  unfold own_rn; rw [q]; split <;> omega
/-- the split of Veltkamp -/
def own_vc (a : Int) : Int := own_rn (134217729 * a)
def own_vd (a : Int) : Int := own_rn (own_vc a - a)
def own_vh (a : Int) : Int := own_rn (own_vc a - own_vd a)
def own_vl (a : Int) : Int := own_rn (a - own_vh a)
def own_spl (a h l : Int) : Prop := h + l = a ∧ l.natAbs * 2 ^ 25 ≤ a.natAbs ∧ ∃ (m : Int) (w : Nat), h = m * 2 ^ w ∧ m.natAbs ≤ 67108865
theorem own_vneg (a : Int) : own_vh (-a) = - own_vh a ∧ own_vl (-a) = - own_vl a := by
  have c : own_vc (-a) = - own_vc a := by unfold own_vc; rw [← own_rn_neg]; congr 1; omega
  have d : own_vd (-a) = - own_vd a := by unfold own_vd; rw [← own_rn_neg, c]; congr 1; omega
  have h : own_vh (-a) = - own_vh a := by unfold own_vh; rw [← own_rn_neg, c, d]; congr 1; omega
  refine ⟨h, ?_⟩
  unfold own_vl; rw [← own_rn_neg, h]; congr 1; omega
theorem own_vexact {a : Int} (h : a.natAbs ≤ 2 ^ 53) (c : own_vc a = 134217729 * a) (d : own_rn (134217728 * a) = 134217728 * a) : own_vh a = a ∧ own_vl a = 0 := by
  have hd : own_vd a = 134217728 * a := by unfold own_vd; rw [c, show 134217729 * a - a = 134217728 * a by omega]; exact d
  have hh : own_vh a = a := by unfold own_vh; rw [c, hd, show 134217729 * a - 134217728 * a = a by omega]; exact own_rn_small h
  refine ⟨hh, ?_⟩
  unfold own_vl; rw [hh, Int.sub_self]; exact own_rn_small (by decide)
theorem own_splE {a : Int} (m : Int) (w : Nat) (e : a = m * 2 ^ w) (hm : m.natAbs ≤ 67108865) (h : own_vh a = a ∧ own_vl a = 0) : own_spl a (own_vh a) (own_vl a) := by
  rw [h.1, h.2]
  exact ⟨by omega, by simp, m, w, e, hm⟩
theorem own_splN (a : Nat) (h0 : 0 < a) (h : a ≤ 2 ^ 52) : own_spl a (own_vh a) (own_vl a) := by
  have z : a ≠ 0 := by omega
  have l1 := Nat.log2_self_le z
  have l2 : a < 2 ^ (a.log2 + 1) := Nat.lt_log2_self
  have l3 : a.log2 ≤ 52 := own_log_lt z (by omega)
  generalize a.log2 = n at l1 l2 l3
  by_cases hn : n ≤ 24
  · have l4 : 2 ^ (n + 1) ≤ 2 ^ 25 := Nat.pow_le_pow_right (by decide) (by omega)
    exact own_splE a 0 (by simp) (by omega) (own_vexact (by omega) (own_rn_small (by omega)) (own_rn_small (by omega)))
  by_cases he : a = 2 ^ n
  · have hx : (a : Int) = 1 * 2 ^ n := by rw [he]; simp
    refine own_splE 1 n hx (by decide) (own_vexact (by omega) ?_ ?_)
    · exact own_rn_exact (m := 134217729) (w := n) (by rw [hx]; omega) (by decide)
    · exact own_rn_exact (m := 134217728) (w := n) (by rw [hx]; omega) (by decide)
  -- g = 2 ^ (n - 25)
  have g1 : 2 ^ n = 2 ^ (n - 25) * 33554432 := by rw [show (33554432 : Nat) = 2 ^ 25 by decide, ← Nat.pow_add]; exact congrArg (2 ^ ·) (by omega)
  have g2 : 2 ^ (n + 1) = 2 ^ (n - 25) * 67108864 := by rw [show (67108864 : Nat) = 2 ^ 26 by decide, ← Nat.pow_add]; exact congrArg (2 ^ ·) (by omega)
  have g3 : 2 ^ (n + 27) = 2 ^ (n - 25) * 4503599627370496 := by rw [show (4503599627370496 : Nat) = 2 ^ 52 by decide, ← Nat.pow_add]; exact congrArg (2 ^ ·) (by omega)
  have g4 : 2 ^ (n + 28 + 1) = 2 ^ (n - 25) * 18014398509481984 := by rw [show (18014398509481984 : Nat) = 2 ^ 54 by decide, ← Nat.pow_add]; exact congrArg (2 ^ ·) (by omega)
  have g5 : 2 ^ (n + 28 - 52) = 2 ^ (n - 25) * 2 := by rw [show n + 28 - 52 = n - 25 + 1 by omega, Nat.pow_succ]
  have g6 : 2 ^ (n + 27 - 52) = 2 ^ (n - 25) := by rw [show n + 27 - 52 = n - 25 by omega]
  have gp : 2 ^ (n - 25) ≤ 2 ^ 27 := Nat.pow_le_pow_right (by decide) (by omega)
  have gp1 := Nat.two_pow_pos (n - 25)
  generalize hg : 2 ^ (n - 25) = g at *
  -- c
  obtain ⟨c, hc⟩ : ∃ c, c = own_rnN (134217729 * a) := ⟨_, rfl⟩
  have c1 : own_vc a = (c : Int) := by unfold own_vc; rw [show 134217729 * (a : Int) = ((134217729 * a : Nat) : Int) by omega, own_rn_nat, hc]
  have c2 : g ∣ c := by rw [hc, ← g6]; exact own_rnN_div (N := n + 27) (by rw [g3]; omega) (by omega)
  have c3 := own_rnN_err (A := 134217729 * a) (M := n + 28) (by rw [g4]; omega) (by omega)
  rw [← hc, g5] at c3
  -- d
  obtain ⟨d, hd⟩ : ∃ d, d = own_rnN (c - a) := ⟨_, rfl⟩
  have ca : a ≤ c := by omega
  have d1 : own_vd a = (d : Int) := by unfold own_vd; rw [c1, show (c : Int) - (a : Int) = ((c - a : Nat) : Int) by omega, own_rn_nat, hd]
  have d2 : g ∣ d := by rw [hd, ← g6]; exact own_rnN_div (N := n + 27) (by rw [g3]; omega) (by omega)
  have d3 := own_rnN_err (A := c - a) (M := n + 28) (by rw [g4]; omega) (by omega)
  rw [← hd, g5] at d3
  -- the high part
  have dc : d ≤ c := by omega
  obtain ⟨x, hx⟩ := c2
  obtain ⟨y, hy⟩ := d2
  have hxy : c - d = (x - y) * g := by rw [hx, hy, Nat.sub_mul, Nat.mul_comm x, Nat.mul_comm y]
  have hm : x - y ≤ 67108865 := by
    have : (x - y) * g ≤ 67108865 * g := by rw [← hxy]; omega
    exact Nat.le_of_mul_le_mul_right this gp1
  have hi : (c : Int) - (d : Int) = ((x - y : Nat) : Int) * 2 ^ (n - 25) := by
    have : (c : Int) - (d : Int) = ((c - d : Nat) : Int) := by omega
    rw [this, hxy, ← hg]; push_cast; rfl
  have h1 : own_vh a = (c : Int) - (d : Int) := by unfold own_vh; rw [c1, d1]; exact own_rn_exact hi (by omega)
  have h2 : own_vl a = (a : Int) - ((c : Int) - (d : Int)) := by unfold own_vl; rw [h1]; exact own_rn_small (by omega)
  rw [h1, h2]
  exact ⟨by omega, by omega, _, _, hi, by omega⟩
theorem own_splA {a : Int} (h : a.natAbs ≤ 2 ^ 52) : own_spl a (own_vh a) (own_vl a) := by
  by_cases z : a = 0
  · subst z
    have c0 : own_vc 0 = 134217729 * 0 := by unfold own_vc; exact own_rn_small (by omega)
    exact own_splE 0 0 (by omega) (by omega) (own_vexact (by omega) c0 (own_rn_small (by omega)))
  by_cases p : 0 < a
  · obtain ⟨n, rfl⟩ : ∃ n : Nat, a = (n : Int) := ⟨a.natAbs, by omega⟩
    exact own_splN n (by omega) (by omega)
  · obtain ⟨n, rfl⟩ : ∃ n : Nat, a = -(n : Int) := ⟨a.natAbs, by omega⟩
    obtain ⟨s1, s2, m, w, s3, s4⟩ := own_splN n (by omega) (by omega)
    have v := own_vneg (n : Int)
    rw [v.1, v.2]
    refine ⟨by omega, by rw [Int.natAbs_neg, Int.natAbs_neg]; exact s2, -m, w, ?_, by rw [Int.natAbs_neg]; exact s4⟩
    rw [s3, Int.neg_mul]
theorem own_mb {x y k : Nat} (h : x * k ≤ y) {z : Nat} {M : Nat} (hz : y * z ≤ M * k) (hk : 0 < k) : x * z ≤ M := by
  have : x * z * k ≤ M * k := by
    calc x * z * k = x * k * z := by ac_rfl
      _ ≤ y * z := Nat.mul_le_mul_right _ h
      _ ≤ M * k := hz
  exact Nat.le_of_mul_le_mul_right this hk
/-- Dekker's product -/
theorem own_dekker {a b : Int} (ha : a.natAbs ≤ 2 ^ 52) (hb : b.natAbs ≤ 2 ^ 52) (hab : (a * b).natAbs ≤ 2 ^ 62) :
    own_rn (own_rn (own_rn (own_rn (own_rn (own_vh a * own_vh b) - own_rn (a * b)) + own_rn (own_vh a * own_vl b)) + own_rn (own_vl a * own_vh b)) + own_rn (own_vl a * own_vl b)) = a * b - own_rn (a * b) := by
  obtain ⟨a1, a2, m, u, a3, a4⟩ := own_splA ha
  obtain ⟨b1, b2, k, v, b3, b4⟩ := own_splA hb
  generalize own_vh a = ah at *
  generalize own_vl a = al at *
  generalize own_vh b = bh at *
  generalize own_vl b = bl at *
  have q1 : own_rn (ah * bh) = ah * bh := by
    refine own_rn_exact (m := m * k) (w := u + v) ?_ ?_
    · rw [a3, b3, Int.pow_add]; ac_rfl
    · rw [Int.natAbs_mul]; exact Nat.le_trans (Nat.mul_le_mul a4 b4) (by decide)
  rw [Int.natAbs_mul] at hab
  -- the three small products
  have p2 : (al * b).natAbs ≤ 2 ^ 37 := by rw [Int.natAbs_mul]; exact own_mb a2 (by omega) (by decide)
  have p1 : (a * bl).natAbs ≤ 2 ^ 37 := by rw [Int.natAbs_mul, Nat.mul_comm]; exact own_mb b2 (by rw [Nat.mul_comm]; omega) (by decide)
  have p3 : (al * bl).natAbs ≤ 2 ^ 37 := by
    rw [Int.natAbs_mul]
    have : bl.natAbs ≤ b.natAbs := by omega
    exact Nat.le_trans (Nat.mul_le_mul_left _ this) (by rw [← Int.natAbs_mul]; exact p2)
  have e1 : ah * bl = a * bl - al * bl := by rw [← a1, Int.add_mul]; omega
  have e2 : al * bh = al * b - al * bl := by rw [← b1, Int.mul_add]; omega
  have e3 : ah * bh = a * b - a * bl - al * b + al * bl := by
    rw [show ah = a - al by omega, show bh = b - bl by omega, Int.sub_mul, Int.mul_sub, Int.mul_sub]; omega
  have er := own_rnN_err (A := (a * b).natAbs) (M := 62) (by rw [Int.natAbs_mul]; omega) (by decide)
  have er2 : (a * b - own_rn (a * b)).natAbs ≤ 2 ^ 10 := by unfold own_rn; split <;> omega
  rw [q1, e1, e2, e3]
  generalize own_rn (a * b) = p at *
  generalize a * b = ab at *
  generalize a * bl = x1 at *
  generalize al * b = x2 at *
  generalize al * bl = x3 at *
  rw [own_rn_small (i := ab - x1 - x2 + x3 - p) (by omega), own_rn_small (i := x1 - x3) (by omega), own_rn_small (i := x2 - x3) (by omega), own_rn_small (i := x3) (by omega)]
  rw [own_rn_small (i := ab - x1 - x2 + x3 - p + (x1 - x3)) (by omega), own_rn_small (i := ab - x1 - x2 + x3 - p + (x1 - x3) + (x2 - x3)) (by omega), own_rn_small (by omega)]
  omega
/-- a datum moved by k digits -/
def own_sh (k : Int) : Datum → Datum
  | .fin s c q => .fin s c (q - k)
  | d => d
/-- the datum is i * 2^k -/
def own_Sc (k i : Int) (d : Datum) : Prop := Whole i (own_sh k d)
theorem own_Sc.fin {k i : Int} {d : Datum} (h : own_Sc k i d) : ∃ s c q, d = .fin s c q := by
  cases d with
  | nan => exact h.elim
  | inf => exact h.elim
  | fin s c q => exact ⟨s, c, q, rfl⟩
theorem own_Sc.sum {k i j : Int} {x y : Datum} (hx : own_Sc k i x) (hy : own_Sc k j y) : own_Sc k (i + j) (exactSum x y) := by
  obtain ⟨s, c, q, rfl⟩ := hx.fin
  obtain ⟨t, d, r, rfl⟩ := hy.fin
  have h := whole_sum hx hy
  have e : exactSum (own_sh k (.fin s c q)) (own_sh k (.fin t d r)) = own_sh k (exactSum (.fin s c q) (.fin t d r)) := by
    simp only [own_sh, exactSum]
    have m : min (q - k) (r - k) = min q r - k := by omega
    have u : sumUnits s c (q - k) t d (r - k) (min q r - k) = sumUnits s c q t d r (min q r) := by
      unfold sumUnits inUnits
      rw [show q - k - (min q r - k) = q - min q r by omega, show r - k - (min q r - k) = r - min q r by omega]
    rw [m, u]
  rw [e] at h; exact h
theorem own_Sc.neg {k i : Int} {x : Datum} (hx : own_Sc k i x) : own_Sc k (-i) (negate x) := by
  obtain ⟨s, c, q, rfl⟩ := hx.fin
  exact whole_negate hx
theorem own_Sc.prod {k l i j : Int} {x y : Datum} (hx : own_Sc k i x) (hy : own_Sc l j y) : own_Sc (k + l) (i * j) (exactProduct x y) := by
  obtain ⟨s, c, q, rfl⟩ := hx.fin
  obtain ⟨t, d, r, rfl⟩ := hy.fin
  have h := whole_product hx hy
  have e : exactProduct (own_sh k (.fin s c q)) (own_sh l (.fin t d r)) = own_sh (k + l) (exactProduct (.fin s c q) (.fin t d r)) := by
    simp only [own_sh, exactProduct]
    rw [show q - k + (r - l) = q + r - (k + l) by omega]
  rw [e] at h; exact h
theorem own_Sc.order {k i j : Int} {x y : Datum} (hx : own_Sc k i x) (hy : own_Sc k j y) : order x y = some (compare i j) := by
  obtain ⟨s, c, q, rfl⟩ := hx.fin
  obtain ⟨t, d, r, rfl⟩ := hy.fin
  have h := order_whole hx hy
  rw [← h]
  simp only [own_sh, Jvm.FP.Core.order]
  have m : min (q - k) (r - k) = min q r - k := by omega
  unfold inUnits
  rw [m, show q - k - (min q r - k) = q - min q r by omega, show r - k - (min q r - k) = r - min q r by omega]
theorem own_lead {A : Nat} (h : A ≠ 0) : leading A 1 = (A.log2 : Int) := by
  have l1 := Nat.log2_self_le h
  unfold leading
  rw [show Nat.log2 1 = 0 by decide]
  simp only [Int.natCast_zero, Int.sub_zero]
  rw [if_pos]
  rw [show (-(A.log2 : Int)).toNat = 0 by omega, show ((A.log2 : Int)).toNat = A.log2 by omega]
  omega
theorem own_rr {A : Nat} {k : Int} (s : Bool) (h1 : -1074 ≤ k) (h2 : k ≤ 700) (h3 : A < 2 ^ 200) : ∃ c q, roundRatio b64 s A 1 k = .fin s c q ∧ c * 2 ^ (q - k).toNat = own_rnN A * 2 ^ (k - q).toNat := by
  have qn : b64.qmin = -1074 := by decide +kernel
  have qx : b64.qmax = 971 := by decide +kernel
  have tl : b64.tails = 2 ^ 52 := rfl
  have pp : (b64.p : Int) - 1 = 52 := rfl
  have p53 : b64.p = 53 := rfl
  by_cases z : A = 0
  · subst z
    refine ⟨0, b64.qmin, by unfold roundRatio; rw [if_pos rfl], ?_⟩
    rw [own_rnN_small (by omega)]; simp
  · have l1 := Nat.log2_self_le z
    have l2 : A < 2 ^ (A.log2 + 1) := Nat.lt_log2_self
    have l3 : A.log2 ≤ 199 := own_log_lt z h3
    unfold roundRatio
    rw [if_neg z]
    have hq : quantum b64 A 1 k = max (-1074) ((A.log2 : Int) + k - 52) := by unfold quantum; rw [own_lead z, qn, pp]
    rw [hq]
    unfold roundAt unitsNum unitsDen
    by_cases sm : A < 2 ^ 53
    · have l4 : A.log2 ≤ 52 := own_log_lt z sm
      rw [own_rnN_small (by omega)]
      generalize hqq : max (-1074) ((A.log2 : Int) + k - 52) = q
      have b1 : q ≤ k := by omega
      have b2 : (k - q).toNat ≤ 52 - A.log2 := by omega
      have e0 : (q - k).toNat = 0 := by omega
      have n1 : nearest (A * 2 ^ (k - q).toNat) 1 = A * 2 ^ (k - q).toNat := by
        have := nearest_exact (B := 1) (A * 2 ^ (k - q).toNat) (by decide)
        rwa [Nat.mul_one] at this
      have n2 : A * 2 ^ (k - q).toNat < 2 ^ 53 := by
        calc A * 2 ^ (k - q).toNat < 2 ^ (A.log2 + 1) * 2 ^ (k - q).toNat := Nat.mul_lt_mul_of_pos_right l2 (Nat.two_pow_pos _)
          _ = 2 ^ (A.log2 + 1 + (k - q).toNat) := by rw [← Nat.pow_add]
          _ ≤ 2 ^ 53 := Nat.pow_le_pow_right (by decide) (by omega)
      refine ⟨A * 2 ^ (k - q).toNat, q, ?_, by rw [e0, Nat.pow_zero, Nat.mul_one]⟩
      rw [e0, Nat.pow_zero, Nat.mul_one, n1]
      unfold settle bound
      rw [p53, if_pos n2, if_pos (by omega)]
    · have l4 : 53 ≤ A.log2 := own_log_ge (by omega)
      have e1 : max (-1074) ((A.log2 : Int) + k - 52) = k + ((A.log2 - 52 : Nat) : Int) := by omega
      rw [e1]
      have e2 : (k - (k + ((A.log2 - 52 : Nat) : Int))).toNat = 0 := by omega
      have e3 : (k + ((A.log2 - 52 : Nat) : Int) - k).toNat = A.log2 - 52 := by omega
      rw [e2, e3, Nat.pow_zero, Nat.mul_one, Nat.one_mul]
      have rn : own_rnN A = nearest A (2 ^ (A.log2 - 52)) * 2 ^ (A.log2 - 52) := by unfold own_rnN; rw [if_neg sm]
      have le : nearest A (2 ^ (A.log2 - 52)) ≤ 2 ^ 53 := nearest_le (Nat.two_pow_pos _) (by
        rw [← Nat.pow_add]; exact Nat.le_of_lt (Nat.lt_of_lt_of_le l2 (Nat.pow_le_pow_right (by decide) (by omega))))
      generalize A.log2 - 52 = j at *
      generalize nearest A (2 ^ j) = m at *
      unfold settle bound
      rw [p53, tl]
      by_cases lt : m < 2 ^ 53
      · rw [if_pos lt, if_pos (by omega)]
        refine ⟨m, k + j, rfl, ?_⟩
        rw [rn, e2, e3, Nat.pow_zero, Nat.mul_one]
      · rw [if_neg lt, if_pos (by omega)]
        refine ⟨2 ^ 52, k + j + 1, rfl, ?_⟩
        rw [rn, show m = 2 ^ 53 by omega, show (k + j + 1 - k).toNat = 1 + j by omega, show (k - (k + j + 1)).toNat = 0 by omega, Nat.pow_add 2 1 j, ← Nat.mul_assoc, Nat.pow_zero, Nat.mul_one]
theorem own_Sc.round {k i : Int} {d : Datum} (h : own_Sc k i d) (h1 : -1074 ≤ k) (h2 : k ≤ 700) (h3 : i.natAbs < 2 ^ 200) : own_Sc k (own_rn i) (round b64 d) := by
  obtain ⟨s, c, q, rfl⟩ := h.fin
  have w : Whole i (.fin s c (q - k)) := h
  have n := whole_natAbs w
  have e : Jvm.FP.Core.round b64 (.fin s c q) = roundRatio b64 s i.natAbs 1 k := by
    refine roundRatio_congr (by decide) (by decide) ?_
    rw [show (k - q) = -(q - k) by omega, Nat.mul_one, Nat.mul_one]; exact n
  rw [e]
  obtain ⟨c', q', r1, r2⟩ := own_rr s h1 h2 h3
  rw [r1]
  show signed s (c' * 2 ^ (q' - k).toNat) = own_rn i * ((2 ^ (-(q' - k)).toNat : Nat) : Int)
  rw [r2, show -(q' - k) = k - q' by omega, signed_mul]
  congr 1
  by_cases z : i = 0
  · subst z
    rw [show own_rnN (0 : Int).natAbs = 0 from own_rnN_small (by omega), show own_rn 0 = 0 from own_rn_small (by omega)]; exact signed_zero s
  · rw [whole_sign w z]
    unfold signed own_rn
    by_cases p : i < 0 <;> simp [p]
/-- the double is i * 2^k -/
def own_D2 (k i : Int) (a : UInt64) : Prop := own_Sc k i (val64 a)
theorem own_dmul {k l i j : Int} {a b : UInt64} (ha : own_D2 k i a) (hb : own_D2 l j b) (h1 : -1074 ≤ k + l) (h2 : k + l ≤ 700) (h3 : (i * j).natAbs < 2 ^ 200) : own_D2 (k + l) (own_rn (i * j)) (dmul a b) := by
  unfold own_D2; rw [val64_dmul]; exact (ha.prod hb).round h1 h2 h3
theorem own_dadd {k i j : Int} {a b : UInt64} (ha : own_D2 k i a) (hb : own_D2 k j b) (h1 : -1074 ≤ k) (h2 : k ≤ 700) (h3 : (i + j).natAbs < 2 ^ 200) : own_D2 k (own_rn (i + j)) (dadd a b) := by
  unfold own_D2; rw [val64_dadd]; exact (ha.sum hb).round h1 h2 h3
theorem own_dsub {k i j : Int} {a b : UInt64} (ha : own_D2 k i a) (hb : own_D2 k j b) (h1 : -1074 ≤ k) (h2 : k ≤ 700) (h3 : (i - j).natAbs < 2 ^ 200) : own_D2 k (own_rn (i - j)) (dsub a b) := by
  unfold own_D2; rw [val64_dsub]; exact (ha.sum hb.neg).round h1 h2 h3
theorem own_dcmp {k i j : Int} {a b : UInt64} (ha : own_D2 k i a) (hb : own_D2 k j b) : dcmp a b = some (compare i j) := own_Sc.order ha hb
theorem own_D2.int {i : Int} {a : UInt64} (h : own_D2 0 i a) : DInt i a := by
  obtain ⟨s, c, q, e⟩ := own_Sc.fin h
  have h' : Whole i (own_sh 0 (val64 a)) := h
  unfold DInt
  rw [e] at h' ⊢
  rw [own_sh, Int.sub_zero] at h'; exact h'
theorem own_D2.of {i : Int} {a : UInt64} (h : DInt i a) : own_D2 0 i a := by
  unfold own_D2 own_Sc
  unfold DInt at h
  cases e : val64 a with
  | nan => rw [e] at h; exact h.elim
  | inf => rw [e] at h; exact h.elim
  | fin s c q => rw [e] at h; rw [own_sh, Int.sub_zero]; exact h
theorem own_rn_bd {i : Int} {M : Nat} (hM : 53 ≤ M) (h : i.natAbs < 2 ^ M) : (own_rn i).natAbs < 2 ^ (M + 1) := by
  have e := own_rnN_err (A := i.natAbs) (M := M - 1) (by rw [show M - 1 + 1 = M by omega]; exact h) (by omega)
  have p : 2 ^ (M - 1 - 52) ≤ 2 ^ M := Nat.pow_le_pow_right (by decide) (by omega)
  have q : 2 ^ (M + 1) = 2 * 2 ^ M := by rw [Nat.pow_succ]; omega
  have r : (own_rn i).natAbs = own_rnN i.natAbs := by unfold own_rn; split <;> omega
  rw [r, q]; omega
theorem own_D2.no {k i : Int} {a : UInt64} (h : own_D2 k i a) : val64 a ≠ .nan := by
  obtain ⟨s, c, q, e⟩ := own_Sc.fin h
  rw [e]; exact fun q => by cases q
theorem own_D2.mk {k i : Int} {a : UInt64} {s : Bool} {c : Nat} {q : Int} (e : val64 a = .fin s c q) (h : signed s (c * 2 ^ (q - k).toNat) = i * ((2 ^ (-(q - k)).toNat : Nat) : Int)) : own_D2 k i a := by
  unfold own_D2 own_Sc; rw [e]; exact h
/-- a step: its value, no NaN, what it is -/
def own_R (k i : Int) (z : UInt64) (v : UInt64) : Prop := z = v ∧ val64 z ≠ .nan ∧ own_D2 k i v
theorem own_R.of {k i : Int} {z : UInt64} (h : own_D2 k i z) : ∃ v, own_R k i z v := ⟨z, rfl, h.no, h⟩
theorem own_mulR {k l i j m r : Int} {a b : UInt64} (ha : own_D2 k i a) (hb : own_D2 l j b) (hm : k + l = m) (hr : own_rn (i * j) = r) (h1 : -1074 ≤ m) (h2 : m ≤ 700) (h3 : (i * j).natAbs < 2 ^ 200) : ∃ v, own_R m r (dmul a b) v := by
  subst hm hr; exact own_R.of (own_dmul ha hb h1 h2 h3)
theorem own_addR {k i j r : Int} {a b : UInt64} (ha : own_D2 k i a) (hb : own_D2 k j b) (hr : own_rn (i + j) = r) (h1 : -1074 ≤ k) (h2 : k ≤ 700) (h3 : (i + j).natAbs < 2 ^ 200) : ∃ v, own_R k r (dadd a b) v := by
  subst hr; exact own_R.of (own_dadd ha hb h1 h2 h3)
theorem own_subR {k i j r : Int} {a b : UInt64} (ha : own_D2 k i a) (hb : own_D2 k j b) (hr : own_rn (i - j) = r) (h1 : -1074 ≤ k) (h2 : k ≤ 700) (h3 : (i - j).natAbs < 2 ^ 200) : ∃ v, own_R k r (dsub a b) v := by
  subst hr; exact own_R.of (own_dsub ha hb h1 h2 h3)
abbrev own_SP : UInt64 := 4728779608772575232
theorem own_SPd : own_D2 0 134217729 own_SP := own_D2.mk (s := false) (c := 4503599660924928) (q := -25) (by decide +kernel) (by decide +kernel)
/-- the split, in doubles -/
theorem own_split {k a : Int} {x : UInt64} (hx : own_D2 k a x) (h1 : -1074 ≤ k) (h2 : k ≤ 700) (ha : a.natAbs ≤ 2 ^ 52) :
    ∃ v1 v2 v3 v4, own_R k (own_vc a) (dmul own_SP x) v1 ∧ own_R k (own_vd a) (dsub v1 x) v2 ∧ own_R k (own_vh a) (dsub v1 v2) v3 ∧ own_R k (own_vl a) (dsub x v3) v4 := by
  have b1 : (134217729 * a).natAbs < 2 ^ 80 := by omega
  have b2 : (own_vc a).natAbs < 2 ^ 81 := own_rn_bd (by decide) b1
  have b3 : (own_vc a - a).natAbs < 2 ^ 82 := by omega
  have b4 : (own_vd a).natAbs < 2 ^ 83 := own_rn_bd (by decide) b3
  have b5 : (own_vc a - own_vd a).natAbs < 2 ^ 84 := by omega
  have b6 : (own_vh a).natAbs < 2 ^ 85 := own_rn_bd (by decide) b5
  obtain ⟨v1, r1⟩ := own_mulR own_SPd hx (Int.zero_add k) (r := own_vc a) rfl h1 h2 (by omega)
  obtain ⟨v2, r2⟩ := own_subR r1.2.2 hx (r := own_vd a) rfl h1 h2 (by omega)
  obtain ⟨v3, r3⟩ := own_subR r1.2.2 r2.2.2 (r := own_vh a) rfl h1 h2 (by omega)
  obtain ⟨v4, r4⟩ := own_subR hx r3.2.2 (r := own_vl a) rfl h1 h2 (by omega)
  exact ⟨v1, v2, v3, v4, r1, r2, r3, r4⟩
/-- productError, in doubles -/
theorem own_pe {k l a b : Int} {x y p : UInt64} (hx : own_D2 k a x) (hy : own_D2 l b y) (hp : own_D2 (k + l) (own_rn (a * b)) p) (h1 : -1074 ≤ k) (h2 : k ≤ 700) (h3 : -1074 ≤ l) (h4 : l ≤ 700) (h5 : -1074 ≤ k + l) (h6 : k + l ≤ 700) (ha : a.natAbs ≤ 2 ^ 52) (hb : b.natAbs ≤ 2 ^ 52) (hab : (a * b).natAbs ≤ 2 ^ 62) :
    ∃ v1 v2 v3 v4 v5 v6 v7 v8 v9 v10 v11 v12 v13 v14 v15 v16 i1 i2 i3 i4 i5 i6 i7 i8 i9 i10 i11 i12 i13 i14 i15,
      own_R k i1 (dmul own_SP x) v1 ∧ own_R k i2 (dsub v1 x) v2 ∧ own_R k i3 (dsub v1 v2) v3 ∧ own_R k i4 (dsub x v3) v4 ∧
      own_R l i5 (dmul own_SP y) v5 ∧ own_R l i6 (dsub v5 y) v6 ∧ own_R l i7 (dsub v5 v6) v7 ∧ own_R l i8 (dsub y v7) v8 ∧
      own_R (k + l) i9 (dmul v3 v7) v9 ∧ own_R (k + l) i10 (dsub v9 p) v10 ∧ own_R (k + l) i11 (dmul v3 v8) v11 ∧ own_R (k + l) i12 (dadd v10 v11) v12 ∧
      own_R (k + l) i13 (dmul v4 v7) v13 ∧ own_R (k + l) i14 (dadd v12 v13) v14 ∧ own_R (k + l) i15 (dmul v4 v8) v15 ∧ own_R (k + l) (a * b - own_rn (a * b)) (dadd v14 v15) v16 := by
  obtain ⟨v1, v2, v3, v4, r1, r2, r3, r4⟩ := own_split hx h1 h2 ha
  obtain ⟨v5, v6, v7, v8, r5, r6, r7, r8⟩ := own_split hy h3 h4 hb
  obtain ⟨a1, a2, -⟩ := own_splA ha
  obtain ⟨b1, b2, -⟩ := own_splA hb
  have vb : ∀ i j : Int, i.natAbs ≤ 2 ^ 53 → j.natAbs ≤ 2 ^ 53 → (i * j).natAbs < 2 ^ 107 := fun i j hi hj => by
    rw [Int.natAbs_mul]; exact Nat.lt_of_le_of_lt (Nat.mul_le_mul hi hj) (by decide)
  have w1 : (own_vh a).natAbs ≤ 2 ^ 53 := by omega
  have w2 : (own_vl a).natAbs ≤ 2 ^ 53 := by omega
  have w3 : (own_vh b).natAbs ≤ 2 ^ 53 := by omega
  have w4 : (own_vl b).natAbs ≤ 2 ^ 53 := by omega
  have dk := own_dekker ha hb hab
  have c1 := own_rn_bd (by decide) (vb _ _ w1 w3)
  have c2 := own_rn_bd (M := 63) (by decide) (Nat.lt_of_le_of_lt hab (by decide))
  have c3 := own_rn_bd (by decide) (vb _ _ w1 w4)
  have c4 := own_rn_bd (by decide) (vb _ _ w2 w3)
  have c5 := own_rn_bd (by decide) (vb _ _ w2 w4)
  have bd : ∀ {i : Int}, i.natAbs < 2 ^ 107 → i.natAbs < 2 ^ 200 := fun h => Nat.lt_of_lt_of_le h (by decide)
  obtain ⟨v9, r9⟩ := own_mulR r3.2.2 r7.2.2 rfl rfl h5 h6 (bd (vb _ _ w1 w3))
  obtain ⟨v10, r10⟩ := own_subR r9.2.2 hp rfl h5 h6 (by omega)
  have c10 := own_rn_bd (i := own_rn (own_vh a * own_vh b) - own_rn (a * b)) (M := 110) (by decide) (by omega)
  obtain ⟨v11, r11⟩ := own_mulR r3.2.2 r8.2.2 rfl rfl h5 h6 (bd (vb _ _ w1 w4))
  obtain ⟨v12, r12⟩ := own_addR r10.2.2 r11.2.2 rfl h5 h6 (by omega)
  have c12 := own_rn_bd (i := own_rn (own_rn (own_vh a * own_vh b) - own_rn (a * b)) + own_rn (own_vh a * own_vl b)) (M := 112) (by decide) (by omega)
  obtain ⟨v13, r13⟩ := own_mulR r4.2.2 r7.2.2 rfl rfl h5 h6 (bd (vb _ _ w2 w3))
  obtain ⟨v14, r14⟩ := own_addR r12.2.2 r13.2.2 rfl h5 h6 (by omega)
  have c14 := own_rn_bd (i := own_rn (own_rn (own_rn (own_vh a * own_vh b) - own_rn (a * b)) + own_rn (own_vh a * own_vl b)) + own_rn (own_vl a * own_vh b)) (M := 114) (by decide) (by omega)
  obtain ⟨v15, r15⟩ := own_mulR r4.2.2 r8.2.2 rfl rfl h5 h6 (bd (vb _ _ w2 w4))
  obtain ⟨v16, r16⟩ := own_addR r14.2.2 r15.2.2 dk h5 h6 (by omega)
  exact ⟨v1, v2, v3, v4, v5, v6, v7, v8, v9, v10, v11, v12, v13, v14, v15, v16, _, _, _, _, _, _, _, _, _, _, _, _, _, _, _, r1, r2, r3, r4, r5, r6, r7, r8, r9, r10, r11, r12, r13, r14, r15, r16⟩
theorem own_s64 : ∀ b : Fin 64, ((Int32.ofNat b) &&& 0x3f).toInt64.toBitVec.smod 64 = BitVec.ofNat 64 b := by decide
theorem own_sr (x : Int64) {n : Nat} (hn : n < 64) : (x >>> ((Int32.ofNat n) &&& 0x3f).toInt64).toInt = x.toInt / 2 ^ n := by
  have h := own_s64 ⟨n, hn⟩
  simp only at h
  have e : (x >>> ((Int32.ofNat n) &&& 0x3f).toInt64).toBitVec = x.toBitVec.sshiftRight n := by
    rw [Int64.toBitVec_shiftRight, h, BitVec.sshiftRight_eq']
    congr 1
    simp [Nat.mod_eq_of_lt (show n < 18446744073709551616 by omega)]
  have f : (x >>> ((Int32.ofNat n) &&& 0x3f).toInt64).toInt = (x >>> ((Int32.ofNat n) &&& 0x3f).toInt64).toBitVec.toInt := rfl
  rw [f, e, BitVec.toInt_sshiftRight, Int.shiftRight_eq_div_pow]
  rfl
theorem own_m31 (j : Int32) : 0 ≤ (j &&& (2147483647 : Int32)).toInt := by
  have e : (j &&& (2147483647 : Int32)).toBitVec.toNat = j.toBitVec.toNat % 2 ^ 31 := by
    rw [Int32.toBitVec_and, BitVec.toNat_and, show (2147483647 : Int32).toBitVec.toNat = 2 ^ 31 - 1 from rfl, Nat.and_two_pow_sub_one_eq_mod]
  have f : (j &&& (2147483647 : Int32)).toInt = (j &&& (2147483647 : Int32)).toBitVec.toInt := rfl
  rw [BitVec.toInt_eq_toNat_cond, e] at f
  split at f <;> omega
theorem own_of32 (b : Nat) (hb : b ≤ 64) {x : Int32} (h : x.toInt = b) : x = Int32.ofNat b := by
  apply Int32.toInt_inj.mp
  rw [h, Int32.toInt_ofNat', show Int32.size = 4294967296 from rfl, Int.bmod_eq_of_le] <;> omega
theorem own_sa (j : Int32) : ∃ n : Nat, 11 ≤ n ∧ n ≤ 53 ∧ ((11 : Int32) + ((j &&& (2147483647 : Int32)) % (43 : Int32))) = Int32.ofNat n ∧ ((64 : Int32) - ((11 : Int32) + ((j &&& (2147483647 : Int32)) % (43 : Int32)))) = Int32.ofNat (64 - n) := by
  have p := own_m31 j
  have c43 : (43 : Int32).toInt = 43 := rfl
  have c11 : (11 : Int32).toInt = 11 := rfl
  have c64 : (64 : Int32).toInt = 64 := rfl
  have m : ((j &&& (2147483647 : Int32)) % (43 : Int32)).toInt = (j &&& (2147483647 : Int32)).toInt % 43 := by
    rw [Int32.toInt_mod, c43, Int.tmod_eq_emod_of_nonneg p]
  generalize (j &&& (2147483647 : Int32)).toInt = z at m p
  have s : ((11 : Int32) + ((j &&& (2147483647 : Int32)) % (43 : Int32))).toInt = 11 + z % 43 := by
    rw [Int32.toInt_add, m, c11, Int.bmod_eq_of_le] <;> omega
  refine ⟨(11 + z % 43).toNat, by omega, by omega, own_of32 _ (by omega) (by rw [s]; omega), own_of32 _ (by omega) ?_⟩
  rw [Int32.toInt_sub, s, c64, Int.bmod_eq_of_le] <;> omega
theorem own_shb {x : Int64} {n : Nat} (h1 : 1 ≤ n) (hn : n < 64) : (x >>> ((Int32.ofNat n) &&& 0x3f).toInt64).toInt.natAbs ≤ 2 ^ (63 - n) := by
  rw [own_sr x hn]
  have a := x.toInt_lt
  have b := x.le_toInt
  have p : (2 : Int) ^ n * 2 ^ (63 - n) = 9223372036854775808 := by rw [← Int.pow_add, show n + (63 - n) = 63 by omega]; rfl
  have p0 : (0 : Int) < 2 ^ n := Int.pow_pos (by decide)
  have u : x.toInt / 2 ^ n < 2 ^ (63 - n) := Int.ediv_lt_of_lt_mul p0 (by rw [Int.mul_comm, p]; omega)
  have l : -(2 ^ (63 - n)) ≤ x.toInt / 2 ^ n := Int.le_ediv_of_mul_le p0 (by rw [Int.neg_mul, Int.mul_comm, p]; omega)
  have c : ((2 ^ (63 - n) : Nat) : Int) = 2 ^ (63 - n) := by push_cast; rfl
  generalize ((2 : Int) ^ (63 - n)) = w at u l c
  omega
/-- the two numbers of the law -/
theorem own_two {x y : Int64} (j : Int32) {a b : Int64} (ha : a = x >>> ((((11 : Int32) + ((j &&& (2147483647 : Int32)) % (43 : Int32)))) &&& 0x3f).toInt64) (hb : b = y >>> ((((64 : Int32) - ((11 : Int32) + ((j &&& (2147483647 : Int32)) % (43 : Int32))))) &&& 0x3f).toInt64) :
    a.toInt.natAbs ≤ 2 ^ 52 ∧ b.toInt.natAbs ≤ 2 ^ 52 ∧ (a.toInt * b.toInt).natAbs ≤ 2 ^ 62 := by
  obtain ⟨n, n1, n2, e1, e2⟩ := own_sa j
  rw [e1] at ha
  rw [e2] at hb
  have b1 := own_shb (x := x) (n := n) (by omega) (by omega)
  have b2 := own_shb (x := y) (n := 64 - n) (by omega) (by omega)
  rw [← ha] at b1
  rw [← hb] at b2
  refine ⟨Nat.le_trans b1 (Nat.pow_le_pow_right (by decide) (by omega)), Nat.le_trans b2 (Nat.pow_le_pow_right (by decide) (by omega)), ?_⟩
  rw [Int.natAbs_mul]
  refine Nat.le_trans (Nat.mul_le_mul b1 b2) ?_
  rw [← Nat.pow_add]
  exact Nat.pow_le_pow_right (by decide) (by omega)
/-- the law's doubles, ahead of the scales -/
theorem own_lawA {a b : Int64} (ha : a.toInt.natAbs ≤ 2 ^ 52) (hb : b.toInt.natAbs ≤ 2 ^ 52) (hab : (a.toInt * b.toInt).natAbs ≤ 2 ^ 62) :
    ∃ v1 R, own_R 0 (own_rn (a.toInt * b.toInt)) (dmul (l2d a) (l2d b)) v1 ∧ d2l v1 = R ∧ (a * b - R).toInt = a.toInt * b.toInt - own_rn (a.toInt * b.toInt) := by
  have da := own_D2.of (l2d_int (a := a) (by omega))
  have db := own_D2.of (l2d_int (a := b) (by omega))
  have er := own_rnN_err (A := (a.toInt * b.toInt).natAbs) (M := 62) (by omega) (by decide)
  have er2 : (a.toInt * b.toInt - own_rn (a.toInt * b.toInt)).natAbs ≤ 2 ^ 10 := by unfold own_rn; split <;> omega
  obtain ⟨v1, r1⟩ := own_mulR da db (Int.zero_add 0) rfl (by decide) (by decide) (by omega)
  have hR : (Int64.ofInt (own_rn (a.toInt * b.toInt))).toInt = own_rn (a.toInt * b.toInt) := by
    rw [Int64.toInt_ofInt, show Int64.size = 18446744073709551616 from rfl, Int.bmod_eq_of_le] <;> omega
  have e1 : d2l v1 = Int64.ofInt (own_rn (a.toInt * b.toInt)) := d2l_int (by rw [hR]; exact r1.2.2.int)
  have m1 : (a * b).toInt = a.toInt * b.toInt := by rw [Int64.toInt_mul, Int.bmod_eq_of_le] <;> omega
  have m2 : (a * b - Int64.ofInt (own_rn (a.toInt * b.toInt))).toInt = a.toInt * b.toInt - own_rn (a.toInt * b.toInt) := by
    rw [Int64.toInt_sub, m1, hR, Int.bmod_eq_of_le] <;> omega
  exact ⟨v1, _, r1, e1, m2⟩
/-- the law's doubles, behind the scales -/
theorem own_lawB {a b R : Int64} {k l : Int} {fa fb : UInt64} (ha : a.toInt.natAbs ≤ 2 ^ 52) (hb : b.toInt.natAbs ≤ 2 ^ 52) (hab : (a.toInt * b.toInt).natAbs ≤ 2 ^ 62) (m2 : (a * b - R).toInt = a.toInt * b.toInt - own_rn (a.toInt * b.toInt)) (hfa : own_D2 k 1 fa ∧ -500 ≤ k ∧ k ≤ 400) (hfb : own_D2 l 1 fb ∧ -511 ≤ l ∧ l ≤ 60) :
    ∃ v2 v3 v4 v5 v6, own_R k a.toInt (dmul (l2d a) fa) v2 ∧ own_R l b.toInt (dmul (l2d b) fb) v3 ∧ own_R (k + l) (own_rn (a.toInt * b.toInt)) (dmul v2 v3) v4 ∧
      own_R k (a.toInt * b.toInt - own_rn (a.toInt * b.toInt)) (dmul (l2d (a * b - R)) fa) v5 ∧ own_R (k + l) (a.toInt * b.toInt - own_rn (a.toInt * b.toInt)) (dmul v5 fb) v6 := by
  obtain ⟨hfa, h1, h2⟩ := hfa
  obtain ⟨hfb, h3, h4⟩ := hfb
  have da := own_D2.of (l2d_int (a := a) (by omega))
  have db := own_D2.of (l2d_int (a := b) (by omega))
  have er := own_rnN_err (A := (a.toInt * b.toInt).natAbs) (M := 62) (by omega) (by decide)
  have er2 : (a.toInt * b.toInt - own_rn (a.toInt * b.toInt)).natAbs ≤ 2 ^ 10 := by unfold own_rn; split <;> omega
  have de := own_D2.of (l2d_int (a := a * b - R) (by rw [m2]; omega))
  rw [m2] at de
  obtain ⟨v2, r2⟩ := own_mulR da hfa (Int.zero_add k) (r := a.toInt) (by rw [Int.mul_one]; exact own_rn_small (by omega)) (by omega) (by omega) (by omega)
  obtain ⟨v3, r3⟩ := own_mulR db hfb (Int.zero_add l) (r := b.toInt) (by rw [Int.mul_one]; exact own_rn_small (by omega)) (by omega) (by omega) (by omega)
  obtain ⟨v4, r4⟩ := own_mulR r2.2.2 r3.2.2 rfl rfl (by omega) (by omega) (by omega)
  obtain ⟨v5, r5⟩ := own_mulR de hfa (Int.zero_add k) (r := a.toInt * b.toInt - own_rn (a.toInt * b.toInt)) (by rw [Int.mul_one]; exact own_rn_small (by omega)) (by omega) (by omega) (by omega)
  obtain ⟨v6, r6⟩ := own_mulR r5.2.2 hfb rfl (r := a.toInt * b.toInt - own_rn (a.toInt * b.toInt)) (by rw [Int.mul_one]; exact own_rn_small (by omega)) (by omega) (by omega) (by omega)
  exact ⟨v2, v3, v4, v5, v6, r2, r3, r4, r5, r6⟩
/-- the eight constants -/
theorem own_k1 : own_D2 0 1 4607182418800017408 := own_D2.mk (s := false) (c := 4503599627370496) (q := -52) (by decide +kernel) (by decide +kernel)
theorem own_kA1 : own_D2 400 1 6408622269748215808 := own_D2.mk (s := false) (c := 4503599627370496) (q := 348) (by decide +kernel) (by decide +kernel)
theorem own_kA2 : own_D2 (-500) 1 2355382605114769408 := own_D2.mk (s := false) (c := 4503599627370496) (q := -552) (by decide +kernel) (by decide +kernel)
theorem own_kA3 : own_D2 (-60) 1 4336966441157787648 := own_D2.mk (s := false) (c := 4503599627370496) (q := -112) (by decide +kernel) (by decide +kernel)
theorem own_kB1 : own_D2 (-400) 1 2805742567851819008 := own_D2.mk (s := false) (c := 4503599627370496) (q := -452) (by decide +kernel) (by decide +kernel)
theorem own_kB2 : own_D2 60 1 4877398396442247168 := own_D2.mk (s := false) (c := 4503599627370496) (q := 8) (by decide +kernel) (by decide +kernel)
theorem own_kB3 : own_D2 (-511) 1 2305843009213693952 := own_D2.mk (s := false) (c := 4503599627370496) (q := -563) (by decide +kernel) (by decide +kernel)
theorem own_ceq {k i : Int} {a b : UInt64} (ha : own_D2 k i a) (hb : own_D2 k i b) : dcmp a b = some .eq := by rw [own_dcmp ha hb, compare_self_int]
end OwnFl
namespace Jvm.Pilot.@@N@@
open Jvm Jvm.ClassFile Sem Op Lib Jvm.Free Jvm.Stand Jvm.LawKit Jvm.RoadKit Bundle Jvm.Pilot.@@N@@.Jvm.D
/-- the sheet's words hold -/
abbrev own_HW (Z : State) (a0 : Array Value) : Prop := ∀ d ∈ tables_1, d.before a0 Z = true
/-- the i-th word of the sheet -/
theorem own_w {Z : State} {a0 : Array Value} (hw : own_HW Z a0) (i : Nat) {d : Jvm.Cond} (h : tables_1[i]? = some d) : d.before a0 Z = true := hw _ (List.mem_of_getElem? h)
theorem own_slne {Z : State} {a0 : Array Value} {C O n d O' n' d' : String} (L : Laid Z a0 C O n d) (L' : Laid Z a0 C O' n' d') (hn : n ≠ n' := by decide) (ht : (parseFieldDescriptor d).isSome = true := by decide) (ht' : (parseFieldDescriptor d').isSome = true := by decide) : RoadKit.slotOf Z O n d ≠ RoadKit.slotOf Z O' n' d' :=
  slot_ne L L' hn (Option.some_get ht).symm (Option.some_get ht').symm
section Own
variable {p : Program} {l : Launch} {e : Env} {R : Room} {s : State} {m : MethodId} {args : Array Value} {below : List Frame} {meth : Method} {c : Code} {T T' : State} {locs : List Loc} {cells slots kc ks : Nat} {g g' : JFrame} {Q : Option Value → Heap → List Loc → Prop}
/-- from here the run goes on to its return, with Q of what it returns, the heap and the places written -/
def own_Go (p : Program) (e : Env) (below : List Frame) (s T : State) (g : JFrame) (Q : Option Value → Heap → List Loc → Prop) (kc ks : Nat) : Prop :=
  ∃ s₂ o, Steps p.tables e below (T.setTop g) s₂ ∧ s₂.status = .running ∧ Ended s₂ below o ∧ ∃ v L, o = .returned v ∧ Q v s₂.heap L ∧ FrameEnd s o s₂ L kc ks
theorem own_st (st : ∀ t, Steps p.tables e below (T'.setTop g') t → Steps p.tables e below (T.setTop g) t) (k : own_Go p e below s T' g' Q kc ks) : own_Go p e below s T g Q kc ks := by
  obtain ⟨s₂, o, h1, h2⟩ := k
  exact ⟨s₂, o, st _ h1, h2⟩
theorem own_stt (st : Steps p.tables e below (T.setTop g) (T'.setTop g')) (k : own_Go p e below s T' g' Q kc ks) : own_Go p e below s T g Q kc ks := own_st (fun _ k => st.trans k) k
theorem own_cast (q : g = g') (k : own_Go p e below s T g' Q kc ks) : own_Go p e below s T g Q kc ks := q ▸ k
theorem own_retN (X : Stand p l e R s m args below meth c T locs cells slots) (hx : p.tables.exec = Jvm.exec) (hlk : meth.locks = false) {t : FieldType} (ht : t = .boolean ∨ t = .byte ∨ t = .char ∨ t = .short) (hret : meth.sig.returnType = some t)
    {pc : Nat} {Ls : Array Slot} {z : Int32} {rest : List Value} (hd : decode c.code pc = .ok (.ireturn, 1)) (hc : cells ≤ kc) (hs : slots ≤ ks) (hq : Q (some (.int (nar t z))) T.heap locs) :
    own_Go p e below s T (mkF m pc Ls (.int z :: rest)) Q kc ks := by
  obtain ⟨fs, hr, hrun, hended, hW, hsame⟩ := X.leave (v := some (.int (nar t z))) (fun h => by rw [hret] at h; cases h) hlk
  exact ⟨_, _, retN X hx hret ht hd hr, hrun, hended, _, _, rfl, hq, ⟨_, rfl⟩, hW, hsame.mono hc hs⟩
theorem own_retI (X : Stand p l e R s m args below meth c T locs cells slots) (hx : p.tables.exec = Jvm.exec) (hlk : meth.locks = false) (hret : meth.sig.returnType = some .int)
    {pc : Nat} {Ls : Array Slot} {z : Int32} {rest : List Value} (hd : decode c.code pc = .ok (.ireturn, 1)) (hc : cells ≤ kc) (hs : slots ≤ ks) (hq : Q (some (.int z)) T.heap locs) :
    own_Go p e below s T (mkF m pc Ls (.int z :: rest)) Q kc ks := by
  obtain ⟨fs, hr, hrun, hended, hW, hsame⟩ := X.leave (v := some (.int z)) (fun h => by rw [hret] at h; cases h) hlk
  exact ⟨_, _, retOut X hx hret rfl (Or.inl ⟨rfl, Or.inl rfl, _, rfl⟩) hd hr, hrun, hended, _, _, rfl, hq, ⟨_, rfl⟩, hW, hsame.mono hc hs⟩
theorem own_retJ (X : Stand p l e R s m args below meth c T locs cells slots) (hx : p.tables.exec = Jvm.exec) (hlk : meth.locks = false) (hret : meth.sig.returnType = some .long)
    {pc : Nat} {Ls : Array Slot} {z : Int64} {rest : List Value} (hd : decode c.code pc = .ok (.lreturn, 1)) (hc : cells ≤ kc) (hs : slots ≤ ks) (hq : Q (some (.long z)) T.heap locs) :
    own_Go p e below s T (mkF m pc Ls (.long z :: rest)) Q kc ks := by
  obtain ⟨fs, hr, hrun, hended, hW, hsame⟩ := X.leave (v := some (.long z)) (fun h => by rw [hret] at h; cases h) hlk
  exact ⟨_, _, retOut X hx hret rfl (Or.inr (Or.inl ⟨rfl, rfl, _, rfl⟩)) hd hr, hrun, hended, _, _, rfl, hq, ⟨_, rfl⟩, hW, hsame.mono hc hs⟩
theorem own_retR (X : Stand p l e R s m args below meth c T locs cells slots) (hx : p.tables.exec = Jvm.exec) (hlk : meth.locks = false) {t : FieldType} (ht : t.isReference = true) (hret : meth.sig.returnType = some t)
    {pc : Nat} {Ls : Array Slot} {a : Addr} {rest : List Value} (hd : decode c.code pc = .ok (.areturn, 1)) (hc : cells ≤ kc) (hs : slots ≤ ks) (hq : Q (some (.ref a)) T.heap locs) :
    own_Go p e below s T (mkF m pc Ls (.ref a :: rest)) Q kc ks := by
  obtain ⟨fs, hr, hrun, hended, hW, hsame⟩ := X.leave (v := some (.ref a)) (fun h => by rw [hret] at h; cases h) hlk
  exact ⟨_, _, retOut X hx hret (by cases t <;> first | rfl | cases ht) (Or.inr (Or.inr (Or.inr (Or.inr ⟨rfl, ht, rfl⟩)))) hd hr, hrun, hended, _, _, rfl, hq, ⟨_, rfl⟩, hW, hsame.mono hc hs⟩
theorem own_retV (X : Stand p l e R s m args below meth c T locs cells slots) (hx : p.tables.exec = Jvm.exec) (hlk : meth.locks = false) (hret : meth.sig.returnType = none)
    {pc : Nat} {Ls : Array Slot} (hd : decode c.code pc = .ok (.return_, 1)) (hc : cells ≤ kc) (hs : slots ≤ ks) (hq : Q none T.heap locs) :
    own_Go p e below s T (mkF m pc Ls []) Q kc ks := by
  obtain ⟨fs, hr, hrun, hended, hW, hsame⟩ := X.leave (v := none) (fun _ => rfl) hlk
  exact ⟨_, _, X.returnOut hx hret hd hr, hrun, hended, _, _, rfl, hq, ⟨_, rfl⟩, hW, hsame.mono hc hs⟩
/-- getfield, and on -/
theorem own_gG {Z : State} {a0 : Array Value} {h : Heap} {own O n d : String} {index : Nat} {a : Addr} {v : Value} {rest : List Value} {s0 : State} (X : Stand p l e R s m args below meth c T locs cells slots) (hx : p.tables.exec = Jvm.exec) (hZ : Z.Warmed39 s.vm) (hown : s.vm.findClass own = some m.cls) (w : (Jvm.Cond.fieldLink own index O n d).before a0 Z = true) (eT : T.heap = h) (F : Fld Z h a O n d v) (hg : g.method = m) (hs : g.stack = .ref a :: rest) (hd : decode c.code g.pc = .ok (.getfield index, 3))
    (k : ∀ {T' : State}, Stand p l e R s m args below meth c T' locs cells slots → T'.heap = h → own_Go p e below s0 T' { g with pc := g.pc + 3, stack := v :: rest } Q kc ks) : own_Go p e below s0 T g Q kc ks := by
  obtain ⟨T', X', e', st⟩ := getF X hx hZ hown (host := "") (Or.inl w) Via.refl eT F hg hs hd
  exact own_st st (k X' e')
end Own
/-- what a body that writes nothing leaves: its value, nothing old written, the heap as it was -/
def own_QP (w : Value) (h0 : Heap) (n0 : Nat) (v : Option Value) (h : Heap) (L : List Loc) : Prop := v = some w ∧ Fr n0 L ∧ h = h0
open OwnFl
theorem own_retD {p : Program} {l : Launch} {e : Env} {R : Room} {s : State} {m : MethodId} {args : Array Value} {below : List Frame} {meth : Method} {c : Code} {T : State} {locs : List Loc} {cells slots kc ks : Nat} {Q : Option Value → Heap → List Loc → Prop} (X : Stand p l e R s m args below meth c T locs cells slots) (hx : p.tables.exec = Jvm.exec) (hlk : meth.locks = false) (hret : meth.sig.returnType = some .double)
    {pc : Nat} {Ls : Array Slot} {z : UInt64} {rest : List Value} (hd : decode c.code pc = .ok (.dreturn, 1)) (hc : cells ≤ kc) (hs : slots ≤ ks) (hq : Q (some (.double z)) T.heap locs) :
    own_Go p e below s T (mkF m pc Ls (.double z :: rest)) Q kc ks := by
  obtain ⟨fs, hr, hrun, hended, hW, hsame⟩ := X.leave (v := some (.double z)) (fun h => by rw [hret] at h; cases h) hlk
  exact ⟨_, _, retOut X hx hret rfl (Or.inr (Or.inr (Or.inl ⟨rfl, rfl, _, rfl⟩))) hd hr, hrun, hended, _, _, rfl, hq, ⟨_, rfl⟩, hW, hsame.mono hc hs⟩
theorem own_nno {z : UInt64} (h : FP.Core.val64 z ≠ .nan) : Jvm.Free.Fl.NoNaN64 z := Jvm.Free.Fl.val64_no.mpr h
theorem own_cmp0 {k i : Int} {a b : UInt64} (ha : own_D2 k i a) (hb : own_D2 k i b) : cmpValue (FP.dcmp a b) .l = (0 : Int32) := by rw [cmpV_l, show FP.dcmp a b = some .eq from own_ceq ha hb]; rfl
theorem own_d1_0 : decode method_2_code 0 = .ok (.iload_n 0, 1) := by decide +kernel
theorem own_d1_1 : decode method_2_code 1 = .ok (.ifCond .ne 5, 3) := by decide +kernel
theorem own_d1_4 : decode method_2_code 4 = .ok (.dconst 1, 1) := by decide +kernel
theorem own_d1_5 : decode method_2_code 5 = .ok (.dreturn, 1) := by decide +kernel
theorem own_d1_6 : decode method_2_code 6 = .ok (.iload_n 0, 1) := by decide +kernel
theorem own_d1_7 : decode method_2_code 7 = .ok (.iconst 1, 1) := by decide +kernel
theorem own_d1_8 : decode method_2_code 8 = .ok (.if_icmp .ne 7, 3) := by decide +kernel
theorem own_d1_11 : decode method_2_code 11 = .ok (.ldc2_w 7, 3) := by decide +kernel
theorem own_d1_14 : decode method_2_code 14 = .ok (.dreturn, 1) := by decide +kernel
theorem own_d1_15 : decode method_2_code 15 = .ok (.iload_n 0, 1) := by decide +kernel
theorem own_d1_16 : decode method_2_code 16 = .ok (.iconst 2, 1) := by decide +kernel
theorem own_d1_17 : decode method_2_code 17 = .ok (.if_icmp .ne 7, 3) := by decide +kernel
theorem own_d1_20 : decode method_2_code 20 = .ok (.ldc2_w 9, 3) := by decide +kernel
theorem own_d1_23 : decode method_2_code 23 = .ok (.dreturn, 1) := by decide +kernel
theorem own_d1_24 : decode method_2_code 24 = .ok (.ldc2_w 11, 3) := by decide +kernel
theorem own_d1_27 : decode method_2_code 27 = .ok (.dreturn, 1) := by decide +kernel
theorem own_pn0 : plainName "com/example/weigh/weigh/analysis/DoubleDoubleProductErrorPinLaw" = true := by first | (simp [plainName, overriddenIn]; done) | decide +kernel
def own_Qsca (Z : State) (nn : Int32) (h0 : Heap) (n0 : Nat) (v : Option Value) (h : Heap) (L : List Loc) : Prop := ∃ (fv : UInt64) (kv : Int), v = some (.double fv) ∧ Fr n0 L ∧ h = h0 ∧ (own_D2 kv 1 fv ∧ -500 ≤ kv ∧ kv ≤ 400)
theorem own_efsca (m : MethodId) (nn : Int32) : entryFrame m #[(.int nn)] 1 = mkF m 0 #[iv nn] [] := by first | (simp [entryFrame, mkF, argsToLocals, Value.category]; done) | rfl
set_option maxRecDepth 65536 in
set_option maxHeartbeats 16000000 in
theorem own_rmsca (l : Launch) (Z : State) (a0 : Array Value) (hw : own_HW Z a0) (ws : List Jvm.Cond) (nn : Int32) (h0 : Heap) (n0 : Nat) (Z0 : n0 ≤ h0.size) :
    MetFree l (⟨"com/example/weigh/weigh/analysis/DoubleDoubleProductErrorPinLaw", "scaleA", "(I)D"⟩ : MethodName) (head1 (Jvm.Cond.code (⟨"com/example/weigh/weigh/analysis/DoubleDoubleProductErrorPinLaw", "scaleA", "(I)D"⟩ : MethodName) method_2_code 1 (some .double) :: ws) ({ frames := 0, cells := 0, slots := 0, locals := 0 } : Room)) (fun aa UU => aa = #[(.int nn)] ∧ Z.Warmed39 UU.vm ∧ UU.heap = h0) (fun _ _ _ _ _ => True) (fun _ U o U' => ∃ v L, o = .returned v ∧ own_Qsca Z nn h0 n0 v U'.heap L ∧ FrameEnd U o U' L ({ frames := 0, cells := 0, slots := 0, locals := 0 } : Room).cells ({ frames := 0, cells := 0, slots := 0, locals := 0 } : Room).slots) := by
  refine MetFree.of_bodySF (plainFor_of_name own_pn0) hisR ?_
  intro p e s m args below meth c s₁ Bd hml hP hK
  obtain ⟨rfl, hZ, hh⟩ := hP
  have hx := Bd.exec
  have hlk := Bd.notSynchronized
  have hby := Bd.bytes
  have hret := Bd.returns
  have hown := findClass_of_methodNamed Bd.named
  have hnm := (name_of_methodNamed Bd.named Bd.method).1
  have X0 : Stand p l e ({ frames := 0, cells := 0, slots := 0, locals := 0 } : Room) s m #[(.int nn)] below meth c s₁ [] 0 0 := Stand.of_body Bd
  have e0 : s₁.heap = h0 := by rw [← hh, Bd.state]; rfl
  have N0 := Fr.nil n0
  refine own_cast (own_efsca m nn) ?_
  show own_Go p e below s s₁ _ (own_Qsca Z nn h0 n0) 0 0
  refine own_st (g' := (mkF m 1 #[iv nn] [(.int nn)])) (fun tt_ kk_ => XS.iloadN X0.here hx rfl (hb hby own_d1_0) rfl kk_) ?_
  by_cases hc1 : nn = (0 : Int32)
  · skip
    refine own_st (g' := (mkF m 5 #[iv nn] [(.double (4607182418800017408 : UInt64))])) (fun tt_ kk_ => XS.ifNo X0.here hx rfl (hb hby own_d1_1) rfl ((if0 _ _).trans (teq hc1).2) (XS.dconst1 X0.here hx rfl (hb hby own_d1_4) (by decide +kernel) kk_)) ?_
    exact own_retD X0 hx hlk hret (hb hby own_d1_5) (by decide) (by decide) (by rw [e0]; exact ⟨(4607182418800017408 : UInt64), 0, rfl, N0, rfl, ⟨own_k1, by decide, by decide⟩⟩)
  refine own_st (g' := (mkF m 8 #[iv nn] [(.int (1 : Int32)), (.int nn)])) (fun tt_ kk_ => XS.ifYes X0.here hx rfl (pc0 := 1) (pc' := 6) rfl (hb hby own_d1_1) rfl ((if0 _ _).trans (feq hc1).2) (by decide) (by decide) (XS.iloadN X0.here hx rfl (hb hby own_d1_6) rfl (XS.iconst X0.here hx rfl (hb hby own_d1_7) kk_))) ?_
  by_cases hc8 : nn = (1 : Int32)
  · skip
    refine own_st (g' := (mkF m 14 #[iv nn] [(.double (6408622269748215808 : UInt64))])) (fun tt_ kk_ => XS.icmpNo X0.here hx rfl (hb hby own_d1_8) rfl (teq hc8).2 (X0.ldc2DoubleC hx hown (mvT hZ (own_w hw 17 rfl)) (g := (mkF m 11 #[iv nn] [])) rfl (hb hby own_d1_11) _ kk_)) ?_
    exact own_retD X0 hx hlk hret (hb hby own_d1_14) (by decide) (by decide) (by rw [e0]; exact ⟨(6408622269748215808 : UInt64), 400, rfl, N0, rfl, ⟨own_kA1, by decide, by decide⟩⟩)
  refine own_st (g' := (mkF m 17 #[iv nn] [(.int (2 : Int32)), (.int nn)])) (fun tt_ kk_ => XS.icmpYes X0.here hx rfl (pc0 := 8) (pc' := 15) rfl (hb hby own_d1_8) rfl (feq hc8).2 (by decide) (by decide) (XS.iloadN X0.here hx rfl (hb hby own_d1_15) rfl (XS.iconst X0.here hx rfl (hb hby own_d1_16) kk_))) ?_
  by_cases hc17 : nn = (2 : Int32)
  · skip
    refine own_st (g' := (mkF m 23 #[iv nn] [(.double (2355382605114769408 : UInt64))])) (fun tt_ kk_ => XS.icmpNo X0.here hx rfl (hb hby own_d1_17) rfl (teq hc17).2 (X0.ldc2DoubleC hx hown (mvT hZ (own_w hw 14 rfl)) (g := (mkF m 20 #[iv nn] [])) rfl (hb hby own_d1_20) _ kk_)) ?_
    exact own_retD X0 hx hlk hret (hb hby own_d1_23) (by decide) (by decide) (by rw [e0]; exact ⟨(2355382605114769408 : UInt64), (-500), rfl, N0, rfl, ⟨own_kA2, by decide, by decide⟩⟩)
  refine own_st (g' := (mkF m 27 #[iv nn] [(.double (4336966441157787648 : UInt64))])) (fun tt_ kk_ => XS.icmpYes X0.here hx rfl (pc0 := 17) (pc' := 24) rfl (hb hby own_d1_17) rfl (feq hc17).2 (by decide) (by decide) (X0.ldc2DoubleC hx hown (mvT hZ (own_w hw 5 rfl)) (g := (mkF m 24 #[iv nn] [])) rfl (hb hby own_d1_24) _ kk_)) ?_
  exact own_retD X0 hx hlk hret (hb hby own_d1_27) (by decide) (by decide) (by rw [e0]; exact ⟨(4336966441157787648 : UInt64), (-60), rfl, N0, rfl, ⟨own_kA3, by decide, by decide⟩⟩)
theorem own_d2_0 : decode method_3_code 0 = .ok (.iload_n 0, 1) := by decide +kernel
theorem own_d2_1 : decode method_3_code 1 = .ok (.ifCond .ne 5, 3) := by decide +kernel
theorem own_d2_4 : decode method_3_code 4 = .ok (.dconst 1, 1) := by decide +kernel
theorem own_d2_5 : decode method_3_code 5 = .ok (.dreturn, 1) := by decide +kernel
theorem own_d2_6 : decode method_3_code 6 = .ok (.iload_n 0, 1) := by decide +kernel
theorem own_d2_7 : decode method_3_code 7 = .ok (.iconst 1, 1) := by decide +kernel
theorem own_d2_8 : decode method_3_code 8 = .ok (.if_icmp .ne 7, 3) := by decide +kernel
theorem own_d2_11 : decode method_3_code 11 = .ok (.ldc2_w 13, 3) := by decide +kernel
theorem own_d2_14 : decode method_3_code 14 = .ok (.dreturn, 1) := by decide +kernel
theorem own_d2_15 : decode method_3_code 15 = .ok (.iload_n 0, 1) := by decide +kernel
theorem own_d2_16 : decode method_3_code 16 = .ok (.iconst 2, 1) := by decide +kernel
theorem own_d2_17 : decode method_3_code 17 = .ok (.if_icmp .ne 7, 3) := by decide +kernel
theorem own_d2_20 : decode method_3_code 20 = .ok (.ldc2_w 15, 3) := by decide +kernel
theorem own_d2_23 : decode method_3_code 23 = .ok (.dreturn, 1) := by decide +kernel
theorem own_d2_24 : decode method_3_code 24 = .ok (.ldc2_w 17, 3) := by decide +kernel
theorem own_d2_27 : decode method_3_code 27 = .ok (.dreturn, 1) := by decide +kernel
def own_Qscb (Z : State) (nn : Int32) (h0 : Heap) (n0 : Nat) (v : Option Value) (h : Heap) (L : List Loc) : Prop := ∃ (fv : UInt64) (kv : Int), v = some (.double fv) ∧ Fr n0 L ∧ h = h0 ∧ (own_D2 kv 1 fv ∧ -511 ≤ kv ∧ kv ≤ 60)
theorem own_efscb (m : MethodId) (nn : Int32) : entryFrame m #[(.int nn)] 1 = mkF m 0 #[iv nn] [] := by first | (simp [entryFrame, mkF, argsToLocals, Value.category]; done) | rfl
set_option maxRecDepth 65536 in
set_option maxHeartbeats 16000000 in
theorem own_rmscb (l : Launch) (Z : State) (a0 : Array Value) (hw : own_HW Z a0) (ws : List Jvm.Cond) (nn : Int32) (h0 : Heap) (n0 : Nat) (Z0 : n0 ≤ h0.size) :
    MetFree l (⟨"com/example/weigh/weigh/analysis/DoubleDoubleProductErrorPinLaw", "scaleB", "(I)D"⟩ : MethodName) (head1 (Jvm.Cond.code (⟨"com/example/weigh/weigh/analysis/DoubleDoubleProductErrorPinLaw", "scaleB", "(I)D"⟩ : MethodName) method_3_code 1 (some .double) :: ws) ({ frames := 0, cells := 0, slots := 0, locals := 0 } : Room)) (fun aa UU => aa = #[(.int nn)] ∧ Z.Warmed39 UU.vm ∧ UU.heap = h0) (fun _ _ _ _ _ => True) (fun _ U o U' => ∃ v L, o = .returned v ∧ own_Qscb Z nn h0 n0 v U'.heap L ∧ FrameEnd U o U' L ({ frames := 0, cells := 0, slots := 0, locals := 0 } : Room).cells ({ frames := 0, cells := 0, slots := 0, locals := 0 } : Room).slots) := by
  refine MetFree.of_bodySF (plainFor_of_name own_pn0) hisR ?_
  intro p e s m args below meth c s₁ Bd hml hP hK
  obtain ⟨rfl, hZ, hh⟩ := hP
  have hx := Bd.exec
  have hlk := Bd.notSynchronized
  have hby := Bd.bytes
  have hret := Bd.returns
  have hown := findClass_of_methodNamed Bd.named
  have hnm := (name_of_methodNamed Bd.named Bd.method).1
  have X0 : Stand p l e ({ frames := 0, cells := 0, slots := 0, locals := 0 } : Room) s m #[(.int nn)] below meth c s₁ [] 0 0 := Stand.of_body Bd
  have e0 : s₁.heap = h0 := by rw [← hh, Bd.state]; rfl
  have N0 := Fr.nil n0
  refine own_cast (own_efscb m nn) ?_
  show own_Go p e below s s₁ _ (own_Qscb Z nn h0 n0) 0 0
  refine own_st (g' := (mkF m 1 #[iv nn] [(.int nn)])) (fun tt_ kk_ => XS.iloadN X0.here hx rfl (hb hby own_d2_0) rfl kk_) ?_
  by_cases hc1 : nn = (0 : Int32)
  · skip
    refine own_st (g' := (mkF m 5 #[iv nn] [(.double (4607182418800017408 : UInt64))])) (fun tt_ kk_ => XS.ifNo X0.here hx rfl (hb hby own_d2_1) rfl ((if0 _ _).trans (teq hc1).2) (XS.dconst1 X0.here hx rfl (hb hby own_d2_4) (by decide +kernel) kk_)) ?_
    exact own_retD X0 hx hlk hret (hb hby own_d2_5) (by decide) (by decide) (by rw [e0]; exact ⟨(4607182418800017408 : UInt64), 0, rfl, N0, rfl, ⟨own_k1, by decide, by decide⟩⟩)
  refine own_st (g' := (mkF m 8 #[iv nn] [(.int (1 : Int32)), (.int nn)])) (fun tt_ kk_ => XS.ifYes X0.here hx rfl (pc0 := 1) (pc' := 6) rfl (hb hby own_d2_1) rfl ((if0 _ _).trans (feq hc1).2) (by decide) (by decide) (XS.iloadN X0.here hx rfl (hb hby own_d2_6) rfl (XS.iconst X0.here hx rfl (hb hby own_d2_7) kk_))) ?_
  by_cases hc8 : nn = (1 : Int32)
  · skip
    refine own_st (g' := (mkF m 14 #[iv nn] [(.double (2805742567851819008 : UInt64))])) (fun tt_ kk_ => XS.icmpNo X0.here hx rfl (hb hby own_d2_8) rfl (teq hc8).2 (X0.ldc2DoubleC hx hown (mvT hZ (own_w hw 16 rfl)) (g := (mkF m 11 #[iv nn] [])) rfl (hb hby own_d2_11) _ kk_)) ?_
    exact own_retD X0 hx hlk hret (hb hby own_d2_14) (by decide) (by decide) (by rw [e0]; exact ⟨(2805742567851819008 : UInt64), (-400), rfl, N0, rfl, ⟨own_kB1, by decide, by decide⟩⟩)
  refine own_st (g' := (mkF m 17 #[iv nn] [(.int (2 : Int32)), (.int nn)])) (fun tt_ kk_ => XS.icmpYes X0.here hx rfl (pc0 := 8) (pc' := 15) rfl (hb hby own_d2_8) rfl (feq hc8).2 (by decide) (by decide) (XS.iloadN X0.here hx rfl (hb hby own_d2_15) rfl (XS.iconst X0.here hx rfl (hb hby own_d2_16) kk_))) ?_
  by_cases hc17 : nn = (2 : Int32)
  · skip
    refine own_st (g' := (mkF m 23 #[iv nn] [(.double (4877398396442247168 : UInt64))])) (fun tt_ kk_ => XS.icmpNo X0.here hx rfl (hb hby own_d2_17) rfl (teq hc17).2 (X0.ldc2DoubleC hx hown (mvT hZ (own_w hw 18 rfl)) (g := (mkF m 20 #[iv nn] [])) rfl (hb hby own_d2_20) _ kk_)) ?_
    exact own_retD X0 hx hlk hret (hb hby own_d2_23) (by decide) (by decide) (by rw [e0]; exact ⟨(4877398396442247168 : UInt64), 60, rfl, N0, rfl, ⟨own_kB2, by decide, by decide⟩⟩)
  refine own_st (g' := (mkF m 27 #[iv nn] [(.double (2305843009213693952 : UInt64))])) (fun tt_ kk_ => XS.icmpYes X0.here hx rfl (pc0 := 17) (pc' := 24) rfl (hb hby own_d2_17) rfl (feq hc17).2 (by decide) (by decide) (X0.ldc2DoubleC hx hown (mvT hZ (own_w hw 15 rfl)) (g := (mkF m 24 #[iv nn] [])) rfl (hb hby own_d2_24) _ kk_)) ?_
  exact own_retD X0 hx hlk hret (hb hby own_d2_27) (by decide) (by decide) (by rw [e0]; exact ⟨(2305843009213693952 : UInt64), (-511), rfl, N0, rfl, ⟨own_kB3, by decide, by decide⟩⟩)
theorem own_d3_0 : decode prog_12_method_6_code 0 = .ok (.ldc2_w 20, 3) := by decide +kernel
theorem own_d3_3 : decode prog_12_method_6_code 3 = .ok (.dload_n 0, 1) := by decide +kernel
theorem own_d3_4 : decode prog_12_method_6_code 4 = .ok (.dmul, 1) := by decide +kernel
theorem own_d3_5 : decode prog_12_method_6_code 5 = .ok (.dstore 6, 2) := by decide +kernel
theorem own_d3_7 : decode prog_12_method_6_code 7 = .ok (.dload 6, 2) := by decide +kernel
theorem own_d3_9 : decode prog_12_method_6_code 9 = .ok (.dload 6, 2) := by decide +kernel
theorem own_d3_11 : decode prog_12_method_6_code 11 = .ok (.dload_n 0, 1) := by decide +kernel
theorem own_d3_12 : decode prog_12_method_6_code 12 = .ok (.dsub, 1) := by decide +kernel
theorem own_d3_13 : decode prog_12_method_6_code 13 = .ok (.dsub, 1) := by decide +kernel
theorem own_d3_14 : decode prog_12_method_6_code 14 = .ok (.dstore 8, 2) := by decide +kernel
theorem own_d3_16 : decode prog_12_method_6_code 16 = .ok (.dload_n 0, 1) := by decide +kernel
theorem own_d3_17 : decode prog_12_method_6_code 17 = .ok (.dload 8, 2) := by decide +kernel
theorem own_d3_19 : decode prog_12_method_6_code 19 = .ok (.dsub, 1) := by decide +kernel
theorem own_d3_20 : decode prog_12_method_6_code 20 = .ok (.dstore 10, 2) := by decide +kernel
theorem own_d3_22 : decode prog_12_method_6_code 22 = .ok (.ldc2_w 20, 3) := by decide +kernel
theorem own_d3_25 : decode prog_12_method_6_code 25 = .ok (.dload_n 2, 1) := by decide +kernel
theorem own_d3_26 : decode prog_12_method_6_code 26 = .ok (.dmul, 1) := by decide +kernel
theorem own_d3_27 : decode prog_12_method_6_code 27 = .ok (.dstore 12, 2) := by decide +kernel
theorem own_d3_29 : decode prog_12_method_6_code 29 = .ok (.dload 12, 2) := by decide +kernel
theorem own_d3_31 : decode prog_12_method_6_code 31 = .ok (.dload 12, 2) := by decide +kernel
theorem own_d3_33 : decode prog_12_method_6_code 33 = .ok (.dload_n 2, 1) := by decide +kernel
theorem own_d3_34 : decode prog_12_method_6_code 34 = .ok (.dsub, 1) := by decide +kernel
theorem own_d3_35 : decode prog_12_method_6_code 35 = .ok (.dsub, 1) := by decide +kernel
theorem own_d3_36 : decode prog_12_method_6_code 36 = .ok (.dstore 14, 2) := by decide +kernel
theorem own_d3_38 : decode prog_12_method_6_code 38 = .ok (.dload_n 2, 1) := by decide +kernel
theorem own_d3_39 : decode prog_12_method_6_code 39 = .ok (.dload 14, 2) := by decide +kernel
theorem own_d3_41 : decode prog_12_method_6_code 41 = .ok (.dsub, 1) := by decide +kernel
theorem own_d3_42 : decode prog_12_method_6_code 42 = .ok (.dstore 16, 2) := by decide +kernel
theorem own_d3_44 : decode prog_12_method_6_code 44 = .ok (.dload 8, 2) := by decide +kernel
theorem own_d3_46 : decode prog_12_method_6_code 46 = .ok (.dload 14, 2) := by decide +kernel
theorem own_d3_48 : decode prog_12_method_6_code 48 = .ok (.dmul, 1) := by decide +kernel
theorem own_d3_49 : decode prog_12_method_6_code 49 = .ok (.dload 4, 2) := by decide +kernel
theorem own_d3_51 : decode prog_12_method_6_code 51 = .ok (.dsub, 1) := by decide +kernel
theorem own_d3_52 : decode prog_12_method_6_code 52 = .ok (.dload 8, 2) := by decide +kernel
theorem own_d3_54 : decode prog_12_method_6_code 54 = .ok (.dload 16, 2) := by decide +kernel
theorem own_d3_56 : decode prog_12_method_6_code 56 = .ok (.dmul, 1) := by decide +kernel
theorem own_d3_57 : decode prog_12_method_6_code 57 = .ok (.dadd, 1) := by decide +kernel
theorem own_d3_58 : decode prog_12_method_6_code 58 = .ok (.dload 10, 2) := by decide +kernel
theorem own_d3_60 : decode prog_12_method_6_code 60 = .ok (.dload 14, 2) := by decide +kernel
theorem own_d3_62 : decode prog_12_method_6_code 62 = .ok (.dmul, 1) := by decide +kernel
theorem own_d3_63 : decode prog_12_method_6_code 63 = .ok (.dadd, 1) := by decide +kernel
theorem own_d3_64 : decode prog_12_method_6_code 64 = .ok (.dload 10, 2) := by decide +kernel
theorem own_d3_66 : decode prog_12_method_6_code 66 = .ok (.dload 16, 2) := by decide +kernel
theorem own_d3_68 : decode prog_12_method_6_code 68 = .ok (.dmul, 1) := by decide +kernel
theorem own_d3_69 : decode prog_12_method_6_code 69 = .ok (.dadd, 1) := by decide +kernel
theorem own_d3_70 : decode prog_12_method_6_code 70 = .ok (.dreturn, 1) := by decide +kernel
theorem own_pn1 : plainName "com/example/weigh/weigh/analysis/DoubleDouble" = true := by first | (simp [plainName, overriddenIn]; done) | decide +kernel
def own_Qpe (Z : State) (px : UInt64) (py : UInt64) (pp : UInt64) (pk : Int) (pl : Int) (pa : Int) (pb : Int) (h0 : Heap) (n0 : Nat) (v : Option Value) (h : Heap) (L : List Loc) : Prop := ∃ (pv : UInt64), v = some (.double pv) ∧ Fr n0 L ∧ h = h0 ∧ own_D2 (pk + pl) (pa * pb - own_rn (pa * pb)) pv
theorem own_efpe (m : MethodId) (px : UInt64) (py : UInt64) (pp : UInt64) : entryFrame m #[(.double px), (.double py), (.double pp)] 18 = mkF m 0 #[.val (.double px), .second, .val (.double py), .second, .val (.double pp), .second, .unset, .unset, .unset, .unset, .unset, .unset, .unset, .unset, .unset, .unset, .unset, .unset] [] := by first | (simp [entryFrame, mkF, argsToLocals, Value.category]; done) | rfl
set_option maxRecDepth 65536 in
set_option maxHeartbeats 16000000 in
theorem own_rmpe (l : Launch) (Z : State) (a0 : Array Value) (hw : own_HW Z a0) (ws : List Jvm.Cond) (px : UInt64) (py : UInt64) (pp : UInt64) (pk : Int) (pl : Int) (pa : Int) (pb : Int) (h0 : Heap) (n0 : Nat) (Z0 : n0 ≤ h0.size) (hdx : own_D2 pk pa px) (hdy : own_D2 pl pb py) (hdp : own_D2 (pk + pl) (own_rn (pa * pb)) pp) (hpk : -500 ≤ pk ∧ pk ≤ 400 ∧ -511 ≤ pl ∧ pl ≤ 60) (hpa : pa.natAbs ≤ 2 ^ 52 ∧ pb.natAbs ≤ 2 ^ 52 ∧ (pa * pb).natAbs ≤ 2 ^ 62) :
    MetFree l (⟨"com/example/weigh/weigh/analysis/DoubleDouble", "productError", "(DDD)D"⟩ : MethodName) (head1 (Jvm.Cond.code (⟨"com/example/weigh/weigh/analysis/DoubleDouble", "productError", "(DDD)D"⟩ : MethodName) prog_12_method_6_code 18 (some .double) :: ws) ({ frames := 0, cells := 0, slots := 0, locals := 0 } : Room)) (fun aa UU => aa = #[(.double px), (.double py), (.double pp)] ∧ Z.Warmed39 UU.vm ∧ UU.heap = h0) (fun _ _ _ _ _ => True) (fun _ U o U' => ∃ v L, o = .returned v ∧ own_Qpe Z px py pp pk pl pa pb h0 n0 v U'.heap L ∧ FrameEnd U o U' L ({ frames := 0, cells := 0, slots := 0, locals := 0 } : Room).cells ({ frames := 0, cells := 0, slots := 0, locals := 0 } : Room).slots) := by
  refine MetFree.of_bodySF (plainFor_of_name own_pn1) hisR ?_
  intro p e s m args below meth c s₁ Bd hml hP hK
  obtain ⟨rfl, hZ, hh⟩ := hP
  have hx := Bd.exec
  have hlk := Bd.notSynchronized
  have hby := Bd.bytes
  have hret := Bd.returns
  have hown := findClass_of_methodNamed Bd.named
  have hnm := (name_of_methodNamed Bd.named Bd.method).1
  have X0 : Stand p l e ({ frames := 0, cells := 0, slots := 0, locals := 0 } : Room) s m #[(.double px), (.double py), (.double pp)] below meth c s₁ [] 0 0 := Stand.of_body Bd
  have e0 : s₁.heap = h0 := by rw [← hh, Bd.state]; rfl
  have N0 := Fr.nil n0
  refine own_cast (own_efpe m px py pp) ?_
  show own_Go p e below s s₁ _ (own_Qpe Z px py pp pk pl pa pb h0 n0) 0 0
  refine own_st (g' := (mkF m 4 #[.val (.double px), .second, .val (.double py), .second, .val (.double pp), .second, .unset, .unset, .unset, .unset, .unset, .unset, .unset, .unset, .unset, .unset, .unset, .unset] [(.double px), (.double (4728779608772575232 : UInt64))])) (fun tt_ kk_ => X0.ldc2DoubleC hx hown (mvT hZ (own_w hw 13 rfl)) (g := (mkF m 0 #[.val (.double px), .second, .val (.double py), .second, .val (.double pp), .second, .unset, .unset, .unset, .unset, .unset, .unset, .unset, .unset, .unset, .unset, .unset, .unset] [])) rfl (hb hby own_d3_0) _ (XS.dloadN X0.here hx rfl (hb hby own_d3_3) rfl kk_)) ?_
  obtain ⟨v1, v2, v3, v4, v5, v6, v7, v8, v9, v10, v11, v12, v13, v14, v15, v16, _, _, _, _, _, _, _, _, _, _, _, _, _, _, _, r1, r2, r3, r4, r5, r6, r7, r8, r9, r10, r11, r12, r13, r14, r15, r16⟩ := own_pe hdx hdy hdp (by omega) (by omega) (by omega) (by omega) (by omega) (by omega) hpa.1 hpa.2.1 hpa.2.2
  refine own_st (g' := (mkF m 12 #[.val (.double px), .second, .val (.double py), .second, .val (.double pp), .second, .val (.double v1), .second, .unset, .unset, .unset, .unset, .unset, .unset, .unset, .unset, .unset, .unset] [(.double px), (.double v1), (.double v1)])) (fun tt_ kk_ => XS.dmulS X0.here hx rfl (hb hby own_d3_4) rfl (own_nno r1.2.1) r1.1 (XS.dstore X0.here hx rfl (hb hby own_d3_5) rfl (l' := #[.val (.double px), .second, .val (.double py), .second, .val (.double pp), .second, .val (.double v1), .second, .unset, .unset, .unset, .unset, .unset, .unset, .unset, .unset, .unset, .unset]) rfl (XS.dload X0.here hx rfl (hb hby own_d3_7) rfl (XS.dload X0.here hx rfl (hb hby own_d3_9) rfl (XS.dloadN X0.here hx rfl (hb hby own_d3_11) rfl kk_))))) ?_
  refine own_st (g' := (mkF m 13 #[.val (.double px), .second, .val (.double py), .second, .val (.double pp), .second, .val (.double v1), .second, .unset, .unset, .unset, .unset, .unset, .unset, .unset, .unset, .unset, .unset] [(.double v2), (.double v1)])) (fun tt_ kk_ => XS.dsubS X0.here hx rfl (hb hby own_d3_12) rfl (own_nno r2.2.1) r2.1 kk_) ?_
  refine own_st (g' := (mkF m 19 #[.val (.double px), .second, .val (.double py), .second, .val (.double pp), .second, .val (.double v1), .second, .val (.double v3), .second, .unset, .unset, .unset, .unset, .unset, .unset, .unset, .unset] [(.double v3), (.double px)])) (fun tt_ kk_ => XS.dsubS X0.here hx rfl (hb hby own_d3_13) rfl (own_nno r3.2.1) r3.1 (XS.dstore X0.here hx rfl (hb hby own_d3_14) rfl (l' := #[.val (.double px), .second, .val (.double py), .second, .val (.double pp), .second, .val (.double v1), .second, .val (.double v3), .second, .unset, .unset, .unset, .unset, .unset, .unset, .unset, .unset]) rfl (XS.dloadN X0.here hx rfl (hb hby own_d3_16) rfl (XS.dload X0.here hx rfl (hb hby own_d3_17) rfl kk_)))) ?_
  refine own_st (g' := (mkF m 26 #[.val (.double px), .second, .val (.double py), .second, .val (.double pp), .second, .val (.double v1), .second, .val (.double v3), .second, .val (.double v4), .second, .unset, .unset, .unset, .unset, .unset, .unset] [(.double py), (.double (4728779608772575232 : UInt64))])) (fun tt_ kk_ => XS.dsubS X0.here hx rfl (hb hby own_d3_19) rfl (own_nno r4.2.1) r4.1 (XS.dstore X0.here hx rfl (hb hby own_d3_20) rfl (l' := #[.val (.double px), .second, .val (.double py), .second, .val (.double pp), .second, .val (.double v1), .second, .val (.double v3), .second, .val (.double v4), .second, .unset, .unset, .unset, .unset, .unset, .unset]) rfl (X0.ldc2DoubleC hx hown (mvT hZ (own_w hw 13 rfl)) (g := (mkF m 22 #[.val (.double px), .second, .val (.double py), .second, .val (.double pp), .second, .val (.double v1), .second, .val (.double v3), .second, .val (.double v4), .second, .unset, .unset, .unset, .unset, .unset, .unset] [])) rfl (hb hby own_d3_22) _ (XS.dloadN X0.here hx rfl (hb hby own_d3_25) rfl kk_)))) ?_
  refine own_st (g' := (mkF m 34 #[.val (.double px), .second, .val (.double py), .second, .val (.double pp), .second, .val (.double v1), .second, .val (.double v3), .second, .val (.double v4), .second, .val (.double v5), .second, .unset, .unset, .unset, .unset] [(.double py), (.double v5), (.double v5)])) (fun tt_ kk_ => XS.dmulS X0.here hx rfl (hb hby own_d3_26) rfl (own_nno r5.2.1) r5.1 (XS.dstore X0.here hx rfl (hb hby own_d3_27) rfl (l' := #[.val (.double px), .second, .val (.double py), .second, .val (.double pp), .second, .val (.double v1), .second, .val (.double v3), .second, .val (.double v4), .second, .val (.double v5), .second, .unset, .unset, .unset, .unset]) rfl (XS.dload X0.here hx rfl (hb hby own_d3_29) rfl (XS.dload X0.here hx rfl (hb hby own_d3_31) rfl (XS.dloadN X0.here hx rfl (hb hby own_d3_33) rfl kk_))))) ?_
  refine own_st (g' := (mkF m 35 #[.val (.double px), .second, .val (.double py), .second, .val (.double pp), .second, .val (.double v1), .second, .val (.double v3), .second, .val (.double v4), .second, .val (.double v5), .second, .unset, .unset, .unset, .unset] [(.double v6), (.double v5)])) (fun tt_ kk_ => XS.dsubS X0.here hx rfl (hb hby own_d3_34) rfl (own_nno r6.2.1) r6.1 kk_) ?_
  refine own_st (g' := (mkF m 41 #[.val (.double px), .second, .val (.double py), .second, .val (.double pp), .second, .val (.double v1), .second, .val (.double v3), .second, .val (.double v4), .second, .val (.double v5), .second, .val (.double v7), .second, .unset, .unset] [(.double v7), (.double py)])) (fun tt_ kk_ => XS.dsubS X0.here hx rfl (hb hby own_d3_35) rfl (own_nno r7.2.1) r7.1 (XS.dstore X0.here hx rfl (hb hby own_d3_36) rfl (l' := #[.val (.double px), .second, .val (.double py), .second, .val (.double pp), .second, .val (.double v1), .second, .val (.double v3), .second, .val (.double v4), .second, .val (.double v5), .second, .val (.double v7), .second, .unset, .unset]) rfl (XS.dloadN X0.here hx rfl (hb hby own_d3_38) rfl (XS.dload X0.here hx rfl (hb hby own_d3_39) rfl kk_)))) ?_
  refine own_st (g' := (mkF m 48 #[.val (.double px), .second, .val (.double py), .second, .val (.double pp), .second, .val (.double v1), .second, .val (.double v3), .second, .val (.double v4), .second, .val (.double v5), .second, .val (.double v7), .second, .val (.double v8), .second] [(.double v7), (.double v3)])) (fun tt_ kk_ => XS.dsubS X0.here hx rfl (hb hby own_d3_41) rfl (own_nno r8.2.1) r8.1 (XS.dstore X0.here hx rfl (hb hby own_d3_42) rfl (l' := #[.val (.double px), .second, .val (.double py), .second, .val (.double pp), .second, .val (.double v1), .second, .val (.double v3), .second, .val (.double v4), .second, .val (.double v5), .second, .val (.double v7), .second, .val (.double v8), .second]) rfl (XS.dload X0.here hx rfl (hb hby own_d3_44) rfl (XS.dload X0.here hx rfl (hb hby own_d3_46) rfl kk_)))) ?_
  refine own_st (g' := (mkF m 51 #[.val (.double px), .second, .val (.double py), .second, .val (.double pp), .second, .val (.double v1), .second, .val (.double v3), .second, .val (.double v4), .second, .val (.double v5), .second, .val (.double v7), .second, .val (.double v8), .second] [(.double pp), (.double v9)])) (fun tt_ kk_ => XS.dmulS X0.here hx rfl (hb hby own_d3_48) rfl (own_nno r9.2.1) r9.1 (XS.dload X0.here hx rfl (hb hby own_d3_49) rfl kk_)) ?_
  refine own_st (g' := (mkF m 56 #[.val (.double px), .second, .val (.double py), .second, .val (.double pp), .second, .val (.double v1), .second, .val (.double v3), .second, .val (.double v4), .second, .val (.double v5), .second, .val (.double v7), .second, .val (.double v8), .second] [(.double v8), (.double v3), (.double v10)])) (fun tt_ kk_ => XS.dsubS X0.here hx rfl (hb hby own_d3_51) rfl (own_nno r10.2.1) r10.1 (XS.dload X0.here hx rfl (hb hby own_d3_52) rfl (XS.dload X0.here hx rfl (hb hby own_d3_54) rfl kk_))) ?_
  refine own_st (g' := (mkF m 57 #[.val (.double px), .second, .val (.double py), .second, .val (.double pp), .second, .val (.double v1), .second, .val (.double v3), .second, .val (.double v4), .second, .val (.double v5), .second, .val (.double v7), .second, .val (.double v8), .second] [(.double v11), (.double v10)])) (fun tt_ kk_ => XS.dmulS X0.here hx rfl (hb hby own_d3_56) rfl (own_nno r11.2.1) r11.1 kk_) ?_
  refine own_st (g' := (mkF m 62 #[.val (.double px), .second, .val (.double py), .second, .val (.double pp), .second, .val (.double v1), .second, .val (.double v3), .second, .val (.double v4), .second, .val (.double v5), .second, .val (.double v7), .second, .val (.double v8), .second] [(.double v7), (.double v4), (.double v12)])) (fun tt_ kk_ => XS.daddS X0.here hx rfl (hb hby own_d3_57) rfl (own_nno r12.2.1) r12.1 (XS.dload X0.here hx rfl (hb hby own_d3_58) rfl (XS.dload X0.here hx rfl (hb hby own_d3_60) rfl kk_))) ?_
  refine own_st (g' := (mkF m 63 #[.val (.double px), .second, .val (.double py), .second, .val (.double pp), .second, .val (.double v1), .second, .val (.double v3), .second, .val (.double v4), .second, .val (.double v5), .second, .val (.double v7), .second, .val (.double v8), .second] [(.double v13), (.double v12)])) (fun tt_ kk_ => XS.dmulS X0.here hx rfl (hb hby own_d3_62) rfl (own_nno r13.2.1) r13.1 kk_) ?_
  refine own_st (g' := (mkF m 68 #[.val (.double px), .second, .val (.double py), .second, .val (.double pp), .second, .val (.double v1), .second, .val (.double v3), .second, .val (.double v4), .second, .val (.double v5), .second, .val (.double v7), .second, .val (.double v8), .second] [(.double v8), (.double v4), (.double v14)])) (fun tt_ kk_ => XS.daddS X0.here hx rfl (hb hby own_d3_63) rfl (own_nno r14.2.1) r14.1 (XS.dload X0.here hx rfl (hb hby own_d3_64) rfl (XS.dload X0.here hx rfl (hb hby own_d3_66) rfl kk_))) ?_
  refine own_st (g' := (mkF m 69 #[.val (.double px), .second, .val (.double py), .second, .val (.double pp), .second, .val (.double v1), .second, .val (.double v3), .second, .val (.double v4), .second, .val (.double v5), .second, .val (.double v7), .second, .val (.double v8), .second] [(.double v15), (.double v14)])) (fun tt_ kk_ => XS.dmulS X0.here hx rfl (hb hby own_d3_68) rfl (own_nno r15.2.1) r15.1 kk_) ?_
  refine own_st (g' := (mkF m 70 #[.val (.double px), .second, .val (.double py), .second, .val (.double pp), .second, .val (.double v1), .second, .val (.double v3), .second, .val (.double v4), .second, .val (.double v5), .second, .val (.double v7), .second, .val (.double v8), .second] [(.double v16)])) (fun tt_ kk_ => XS.daddS X0.here hx rfl (hb hby own_d3_69) rfl (own_nno r16.2.1) r16.1 kk_) ?_
  exact own_retD X0 hx hlk hret (hb hby own_d3_70) (by decide) (by decide) (by rw [e0]; exact ⟨v16, rfl, N0, rfl, r16.2.2⟩)
def own_Q0 (n0 : Nat) (v : Option Value) (h : Heap) (L : List Loc) : Prop := v = some (.int (1 : Int32)) ∧ Fr n0 L
theorem own_pd0 : parseMethodDescriptor "(I)D" = some ⟨[.int], some .double⟩ := by decide +kernel
theorem own_pd1 : parseMethodDescriptor "(DDD)D" = some ⟨[.double, .double, .double], some .double⟩ := by decide +kernel
set_option maxRecDepth 65536 in
set_option maxHeartbeats 8000000 in
theorem own_t32 {p : Program} {l : Launch} {e : Env} {s : State} {m : MethodId} {args : Array Value} {below : List Frame} {meth : Method} {c : Code} {T : State} {locs : List Loc} {cells slots : Nat} {Z : State} {a0 : Array Value} {h0 : Heap} {n0 : Nat} (X0 : Stand p l e room_1 s m args below meth c T locs cells slots) (hx : p.tables.exec = Jvm.exec) (hlk : meth.locks = false) (hby : c.code = code) (hml : c.maxLocals = 34) (hret : meth.sig.returnType = some .boolean) (hown : s.vm.findClass "com/example/weigh/weigh/analysis/DoubleDoubleProductErrorPinLaw" = some m.cls) (hZ : Z.Warmed39 s.vm) (hw : own_HW Z a0) (e0 : T.heap = h0) (N0 : Fr n0 locs) (Z0 : n0 ≤ h0.size) (hcc : cells ≤ 0) (hss : slots ≤ 0) (x0 : Int64) (x2 : Int64) (x4 : Int32) (x5 : Int32) (x6 : Int32) (x7 : Int32) (x8 : Int64) (x10 : Int64) (hT : x8.toInt.natAbs ≤ 2 ^ 52 ∧ x10.toInt.natAbs ≤ 2 ^ 52 ∧ (x8.toInt * x10.toInt).natAbs ≤ 2 ^ 62) :
    own_Go p e below s T (mkF m 32 #[.val (.long x0), .second, .val (.long x2), .second, iv x4, iv x5, iv x6, iv x7, .val (.long x8), .second, .val (.long x10), .second, .unset, .unset, .unset, .unset, .unset, .unset, .unset, .unset, .unset, .unset, .unset, .unset, .unset, .unset, .unset, .unset, .unset, .unset, .unset, .unset, .unset, .unset] []) (own_Q0 n0) 0 0 := by
  refine own_st (g' := (mkF m 46 #[.val (.long x0), .second, .val (.long x2), .second, iv x4, iv x5, iv x6, iv x7, .val (.long x8), .second, .val (.long x10), .second, .val (.double (FP.l2d x8)), .second, .val (.double (FP.l2d x10)), .second, .unset, .unset, .unset, .unset, .unset, .unset, .unset, .unset, .unset, .unset, .unset, .unset, .unset, .unset, .unset, .unset, .unset, .unset] [(.double (FP.l2d x10)), (.double (FP.l2d x8))])) (fun tt_ kk_ => XS.lload X0.here hx rfl (hb hby at_32) rfl (XS.l2dS X0.here hx rfl (hb hby at_34) rfl rfl (XS.dstore X0.here hx rfl (hb hby at_35) rfl (l' := #[.val (.long x0), .second, .val (.long x2), .second, iv x4, iv x5, iv x6, iv x7, .val (.long x8), .second, .val (.long x10), .second, .val (.double (FP.l2d x8)), .second, .unset, .unset, .unset, .unset, .unset, .unset, .unset, .unset, .unset, .unset, .unset, .unset, .unset, .unset, .unset, .unset, .unset, .unset, .unset, .unset]) rfl (XS.lload X0.here hx rfl (hb hby at_37) rfl (XS.l2dS X0.here hx rfl (hb hby at_39) rfl rfl (XS.dstore X0.here hx rfl (hb hby at_40) rfl (l' := #[.val (.long x0), .second, .val (.long x2), .second, iv x4, iv x5, iv x6, iv x7, .val (.long x8), .second, .val (.long x10), .second, .val (.double (FP.l2d x8)), .second, .val (.double (FP.l2d x10)), .second, .unset, .unset, .unset, .unset, .unset, .unset, .unset, .unset, .unset, .unset, .unset, .unset, .unset, .unset, .unset, .unset, .unset, .unset]) rfl (XS.dload X0.here hx rfl (hb hby at_42) rfl (XS.dload X0.here hx rfl (hb hby at_44) rfl kk_)))))))) ?_
  obtain ⟨v1, Rr, r1, hRr, mR⟩ := own_lawA hT.1 hT.2.1 hT.2.2
  refine own_st (g' := (mkF m 56 #[.val (.long x0), .second, .val (.long x2), .second, iv x4, iv x5, iv x6, iv x7, .val (.long x8), .second, .val (.long x10), .second, .val (.double (FP.l2d x8)), .second, .val (.double (FP.l2d x10)), .second, .val (.double v1), .second, .unset, .unset, .unset, .unset, .unset, .unset, .unset, .unset, .unset, .unset, .unset, .unset, .unset, .unset, .unset, .unset] [(.double v1), (.long (x8 * x10))])) (fun tt_ kk_ => XS.dmulS X0.here hx rfl (hb hby at_46) rfl (own_nno r1.2.1) r1.1 (XS.dstore X0.here hx rfl (hb hby at_47) rfl (l' := #[.val (.long x0), .second, .val (.long x2), .second, iv x4, iv x5, iv x6, iv x7, .val (.long x8), .second, .val (.long x10), .second, .val (.double (FP.l2d x8)), .second, .val (.double (FP.l2d x10)), .second, .val (.double v1), .second, .unset, .unset, .unset, .unset, .unset, .unset, .unset, .unset, .unset, .unset, .unset, .unset, .unset, .unset, .unset, .unset]) rfl (XS.lload X0.here hx rfl (hb hby at_49) rfl (XS.lload X0.here hx rfl (hb hby at_51) rfl (XS.lmul X0.here hx rfl (hb hby at_53) rfl (XS.dload X0.here hx rfl (hb hby at_54) rfl kk_)))))) ?_
  refine own_st (g' := (mkF m 64 #[.val (.long x0), .second, .val (.long x2), .second, iv x4, iv x5, iv x6, iv x7, .val (.long x8), .second, .val (.long x10), .second, .val (.double (FP.l2d x8)), .second, .val (.double (FP.l2d x10)), .second, .val (.double v1), .second, .val (.long ((x8 * x10) - Rr)), .second, .unset, .unset, .unset, .unset, .unset, .unset, .unset, .unset, .unset, .unset, .unset, .unset, .unset, .unset] [(.int (x5 &&& (3 : Int32)))])) (fun tt_ kk_ => XS.d2lS X0.here hx rfl (hb hby at_56) rfl hRr (XS.lsub X0.here hx rfl (hb hby at_57) rfl (XS.lstore X0.here hx rfl (hb hby at_58) rfl (l' := #[.val (.long x0), .second, .val (.long x2), .second, iv x4, iv x5, iv x6, iv x7, .val (.long x8), .second, .val (.long x10), .second, .val (.double (FP.l2d x8)), .second, .val (.double (FP.l2d x10)), .second, .val (.double v1), .second, .val (.long ((x8 * x10) - Rr)), .second, .unset, .unset, .unset, .unset, .unset, .unset, .unset, .unset, .unset, .unset, .unset, .unset, .unset, .unset]) rfl (XS.iload X0.here hx rfl (hb hby at_60) rfl (XS.iconst X0.here hx rfl (hb hby at_62) (XS.iand X0.here hx rfl (hb hby at_63) rfl kk_)))))) ?_
  obtain ⟨_, _, ⟨T1, L1, k1, n1⟩, -, X1, ⟨Lc1, hQ1, l1, y1, z1⟩, st1⟩ := Jvm.LawKit.callS X0 hx (y := (⟨"com/example/weigh/weigh/analysis/DoubleDoubleProductErrorPinLaw", "scaleA", "(I)D"⟩ : MethodName)) hown (mvT hZ (own_w hw 1 rfl)) (mvT hZ (own_w hw 2 rfl)) (mvT hZ (own_w hw 3 rfl)) (mvT hZ (own_w hw 4 rfl)) (by decide) (backOf (W := 0) (own_rmsca l Z a0 hw [] (x5 &&& (3 : Int32)) h0 n0 Z0 ) hZ (own_w hw 4 rfl) (own_w hw 3 rfl) (by decide) (by decide)) (g := (mkF m 64 #[.val (.long x0), .second, .val (.long x2), .second, iv x4, iv x5, iv x6, iv x7, .val (.long x8), .second, .val (.long x10), .second, .val (.double (FP.l2d x8)), .second, .val (.double (FP.l2d x10)), .second, .val (.double v1), .second, .val (.long ((x8 * x10) - Rr)), .second, .unset, .unset, .unset, .unset, .unset, .unset, .unset, .unset, .unset, .unset, .unset, .unset, .unset, .unset] [(.int (x5 &&& (3 : Int32)))])) rfl (by rw [hml]; rfl) (argsL := [(.int (x5 &&& (3 : Int32)))]) (rest := []) (lenOf own_pd0 rfl) rfl (by show 2 * 0 + _ ≤ _; exact Nat.le_of_eq rfl) (hb hby at_64) (fun _ _ => ⟨rfl, e0, (show cells + 0 ≤ 0 by omega), (show slots + 0 ≤ 0 by omega)⟩)
  dsimp only [Pt.U, Pt.locs, Pt.cells, Pt.slots] at X1 l1 y1 z1 st1 hQ1
  rw [l1, y1, z1] at X1
  obtain ⟨fv_1, kv_1, rfl, N1q, e1, f1_0⟩ := hQ1
  have N1 := Fr.app N0 N1q
  refine own_st st1 ?_
  refine own_st (g' := (mkF m 75 #[.val (.long x0), .second, .val (.long x2), .second, iv x4, iv x5, iv x6, iv x7, .val (.long x8), .second, .val (.long x10), .second, .val (.double (FP.l2d x8)), .second, .val (.double (FP.l2d x10)), .second, .val (.double v1), .second, .val (.long ((x8 * x10) - Rr)), .second, .val (.double fv_1), .second, .unset, .unset, .unset, .unset, .unset, .unset, .unset, .unset, .unset, .unset, .unset, .unset] [(.int (((x5.toUInt32 >>> ((2 : Int32) &&& 31).toUInt32).toInt32) &&& (3 : Int32)))])) (fun tt_ kk_ => XS.dstore X1.here hx rfl (hb hby at_67) rfl (l' := #[.val (.long x0), .second, .val (.long x2), .second, iv x4, iv x5, iv x6, iv x7, .val (.long x8), .second, .val (.long x10), .second, .val (.double (FP.l2d x8)), .second, .val (.double (FP.l2d x10)), .second, .val (.double v1), .second, .val (.long ((x8 * x10) - Rr)), .second, .val (.double fv_1), .second, .unset, .unset, .unset, .unset, .unset, .unset, .unset, .unset, .unset, .unset, .unset, .unset]) rfl (XS.iload X1.here hx rfl (hb hby at_69) rfl (XS.iconst X1.here hx rfl (hb hby at_71) (XS.iushr X1.here hx rfl (hb hby at_72) rfl (XS.iconst X1.here hx rfl (hb hby at_73) (XS.iand X1.here hx rfl (hb hby at_74) rfl kk_)))))) ?_
  obtain ⟨_, _, ⟨T2, L2, k2, n2⟩, -, X2, ⟨Lc2, hQ2, l2, y2, z2⟩, st2⟩ := Jvm.LawKit.callS X1 hx (y := (⟨"com/example/weigh/weigh/analysis/DoubleDoubleProductErrorPinLaw", "scaleB", "(I)D"⟩ : MethodName)) hown (mvT hZ (own_w hw 6 rfl)) (mvT hZ (own_w hw 7 rfl)) (mvT hZ (own_w hw 3 rfl)) (mvT hZ (own_w hw 8 rfl)) (by decide) (backOf (W := 0) (own_rmscb l Z a0 hw [] (((x5.toUInt32 >>> ((2 : Int32) &&& 31).toUInt32).toInt32) &&& (3 : Int32)) h0 n0 Z0 ) hZ (own_w hw 8 rfl) (own_w hw 3 rfl) (by decide) (by decide)) (g := (mkF m 75 #[.val (.long x0), .second, .val (.long x2), .second, iv x4, iv x5, iv x6, iv x7, .val (.long x8), .second, .val (.long x10), .second, .val (.double (FP.l2d x8)), .second, .val (.double (FP.l2d x10)), .second, .val (.double v1), .second, .val (.long ((x8 * x10) - Rr)), .second, .val (.double fv_1), .second, .unset, .unset, .unset, .unset, .unset, .unset, .unset, .unset, .unset, .unset, .unset, .unset] [(.int (((x5.toUInt32 >>> ((2 : Int32) &&& 31).toUInt32).toInt32) &&& (3 : Int32)))])) rfl (by rw [hml]; rfl) (argsL := [(.int (((x5.toUInt32 >>> ((2 : Int32) &&& 31).toUInt32).toInt32) &&& (3 : Int32)))]) (rest := []) (lenOf own_pd0 rfl) rfl (by show 2 * 0 + _ ≤ _; exact Nat.le_of_eq rfl) (hb hby at_75) (fun _ _ => ⟨rfl, e1, (show cells + 0 ≤ 0 by omega), (show slots + 0 ≤ 0 by omega)⟩)
  dsimp only [Pt.U, Pt.locs, Pt.cells, Pt.slots] at X2 l2 y2 z2 st2 hQ2
  rw [l2, y2, z2] at X2
  obtain ⟨fv_2, kv_2, rfl, N2q, e2, f2_0⟩ := hQ2
  have N2 := Fr.app N1 N2q
  refine own_st st2 ?_
  refine own_st (g' := (mkF m 84 #[.val (.long x0), .second, .val (.long x2), .second, iv x4, iv x5, iv x6, iv x7, .val (.long x8), .second, .val (.long x10), .second, .val (.double (FP.l2d x8)), .second, .val (.double (FP.l2d x10)), .second, .val (.double v1), .second, .val (.long ((x8 * x10) - Rr)), .second, .val (.double fv_1), .second, .val (.double fv_2), .second, .unset, .unset, .unset, .unset, .unset, .unset, .unset, .unset, .unset, .unset] [(.double fv_1), (.double (FP.l2d x8))])) (fun tt_ kk_ => XS.dstore X2.here hx rfl (hb hby at_78) rfl (l' := #[.val (.long x0), .second, .val (.long x2), .second, iv x4, iv x5, iv x6, iv x7, .val (.long x8), .second, .val (.long x10), .second, .val (.double (FP.l2d x8)), .second, .val (.double (FP.l2d x10)), .second, .val (.double v1), .second, .val (.long ((x8 * x10) - Rr)), .second, .val (.double fv_1), .second, .val (.double fv_2), .second, .unset, .unset, .unset, .unset, .unset, .unset, .unset, .unset, .unset, .unset]) rfl (XS.dload X2.here hx rfl (hb hby at_80) rfl (XS.dload X2.here hx rfl (hb hby at_82) rfl kk_))) ?_
  obtain ⟨v2, v3, v4, v5, v6, r2, r3, r4, r5, r6⟩ := own_lawB hT.1 hT.2.1 hT.2.2 mR f1_0 f2_0
  refine own_st (g' := (mkF m 91 #[.val (.long x0), .second, .val (.long x2), .second, iv x4, iv x5, iv x6, iv x7, .val (.long x8), .second, .val (.long x10), .second, .val (.double (FP.l2d x8)), .second, .val (.double (FP.l2d x10)), .second, .val (.double v1), .second, .val (.long ((x8 * x10) - Rr)), .second, .val (.double fv_1), .second, .val (.double fv_2), .second, .val (.double v2), .second, .unset, .unset, .unset, .unset, .unset, .unset, .unset, .unset] [(.double fv_2), (.double (FP.l2d x10))])) (fun tt_ kk_ => XS.dmulS X2.here hx rfl (hb hby at_84) rfl (own_nno r2.2.1) r2.1 (XS.dstore X2.here hx rfl (hb hby at_85) rfl (l' := #[.val (.long x0), .second, .val (.long x2), .second, iv x4, iv x5, iv x6, iv x7, .val (.long x8), .second, .val (.long x10), .second, .val (.double (FP.l2d x8)), .second, .val (.double (FP.l2d x10)), .second, .val (.double v1), .second, .val (.long ((x8 * x10) - Rr)), .second, .val (.double fv_1), .second, .val (.double fv_2), .second, .val (.double v2), .second, .unset, .unset, .unset, .unset, .unset, .unset, .unset, .unset]) rfl (XS.dload X2.here hx rfl (hb hby at_87) rfl (XS.dload X2.here hx rfl (hb hby at_89) rfl kk_)))) ?_
  refine own_st (g' := (mkF m 98 #[.val (.long x0), .second, .val (.long x2), .second, iv x4, iv x5, iv x6, iv x7, .val (.long x8), .second, .val (.long x10), .second, .val (.double (FP.l2d x8)), .second, .val (.double (FP.l2d x10)), .second, .val (.double v1), .second, .val (.long ((x8 * x10) - Rr)), .second, .val (.double fv_1), .second, .val (.double fv_2), .second, .val (.double v2), .second, .val (.double v3), .second, .unset, .unset, .unset, .unset, .unset, .unset] [(.double v3), (.double v2)])) (fun tt_ kk_ => XS.dmulS X2.here hx rfl (hb hby at_91) rfl (own_nno r3.2.1) r3.1 (XS.dstore X2.here hx rfl (hb hby at_92) rfl (l' := #[.val (.long x0), .second, .val (.long x2), .second, iv x4, iv x5, iv x6, iv x7, .val (.long x8), .second, .val (.long x10), .second, .val (.double (FP.l2d x8)), .second, .val (.double (FP.l2d x10)), .second, .val (.double v1), .second, .val (.long ((x8 * x10) - Rr)), .second, .val (.double fv_1), .second, .val (.double fv_2), .second, .val (.double v2), .second, .val (.double v3), .second, .unset, .unset, .unset, .unset, .unset, .unset]) rfl (XS.dload X2.here hx rfl (hb hby at_94) rfl (XS.dload X2.here hx rfl (hb hby at_96) rfl kk_)))) ?_
  refine own_st (g' := (mkF m 107 #[.val (.long x0), .second, .val (.long x2), .second, iv x4, iv x5, iv x6, iv x7, .val (.long x8), .second, .val (.long x10), .second, .val (.double (FP.l2d x8)), .second, .val (.double (FP.l2d x10)), .second, .val (.double v1), .second, .val (.long ((x8 * x10) - Rr)), .second, .val (.double fv_1), .second, .val (.double fv_2), .second, .val (.double v2), .second, .val (.double v3), .second, .val (.double v4), .second, .unset, .unset, .unset, .unset] [(.double v4), (.double v3), (.double v2)])) (fun tt_ kk_ => XS.dmulS X2.here hx rfl (hb hby at_98) rfl (own_nno r4.2.1) r4.1 (XS.dstore X2.here hx rfl (hb hby at_99) rfl (l' := #[.val (.long x0), .second, .val (.long x2), .second, iv x4, iv x5, iv x6, iv x7, .val (.long x8), .second, .val (.long x10), .second, .val (.double (FP.l2d x8)), .second, .val (.double (FP.l2d x10)), .second, .val (.double v1), .second, .val (.long ((x8 * x10) - Rr)), .second, .val (.double fv_1), .second, .val (.double fv_2), .second, .val (.double v2), .second, .val (.double v3), .second, .val (.double v4), .second, .unset, .unset, .unset, .unset]) rfl (XS.dload X2.here hx rfl (hb hby at_101) rfl (XS.dload X2.here hx rfl (hb hby at_103) rfl (XS.dload X2.here hx rfl (hb hby at_105) rfl kk_))))) ?_
  obtain ⟨_, _, ⟨T3, L3, k3, n3⟩, -, X3, ⟨Lc3, hQ3, l3, y3, z3⟩, st3⟩ := Jvm.LawKit.callS X2 hx (y := (⟨"com/example/weigh/weigh/analysis/DoubleDouble", "productError", "(DDD)D"⟩ : MethodName)) hown (mvT hZ (own_w hw 9 rfl)) (mvT hZ (own_w hw 10 rfl)) (mvT hZ (own_w hw 11 rfl)) (mvT hZ (own_w hw 12 rfl)) (by decide) (backOf (W := 0) (own_rmpe l Z a0 hw [] v2 v3 v4 kv_1 kv_2 x8.toInt x10.toInt h0 n0 Z0 r2.2.2 r3.2.2 r4.2.2 ⟨f1_0.2.1, f1_0.2.2, f2_0.2.1, f2_0.2.2⟩ hT) hZ (own_w hw 12 rfl) (own_w hw 11 rfl) (by decide) (by decide)) (g := (mkF m 107 #[.val (.long x0), .second, .val (.long x2), .second, iv x4, iv x5, iv x6, iv x7, .val (.long x8), .second, .val (.long x10), .second, .val (.double (FP.l2d x8)), .second, .val (.double (FP.l2d x10)), .second, .val (.double v1), .second, .val (.long ((x8 * x10) - Rr)), .second, .val (.double fv_1), .second, .val (.double fv_2), .second, .val (.double v2), .second, .val (.double v3), .second, .val (.double v4), .second, .unset, .unset, .unset, .unset] [(.double v4), (.double v3), (.double v2)])) rfl (by rw [hml]; rfl) (argsL := [(.double v2), (.double v3), (.double v4)]) (rest := []) (lenOf own_pd1 rfl) rfl (by show 2 * 0 + _ ≤ _; exact Nat.le_of_eq rfl) (hb hby at_107) (fun _ _ => ⟨rfl, e2, (show cells + 0 ≤ 0 by omega), (show slots + 0 ≤ 0 by omega)⟩)
  dsimp only [Pt.U, Pt.locs, Pt.cells, Pt.slots] at X3 l3 y3 z3 st3 hQ3
  rw [l3, y3, z3] at X3
  obtain ⟨pv_3, rfl, N3q, e3, f3_0⟩ := hQ3
  have N3 := Fr.app N2 N3q
  refine own_st st3 ?_
  refine own_st (g' := (mkF m 117 #[.val (.long x0), .second, .val (.long x2), .second, iv x4, iv x5, iv x6, iv x7, .val (.long x8), .second, .val (.long x10), .second, .val (.double (FP.l2d x8)), .second, .val (.double (FP.l2d x10)), .second, .val (.double v1), .second, .val (.long ((x8 * x10) - Rr)), .second, .val (.double fv_1), .second, .val (.double fv_2), .second, .val (.double v2), .second, .val (.double v3), .second, .val (.double v4), .second, .val (.double pv_3), .second, .unset, .unset] [(.double fv_1), (.double (FP.l2d ((x8 * x10) - Rr)))])) (fun tt_ kk_ => XS.dstore X3.here hx rfl (hb hby at_110) rfl (l' := #[.val (.long x0), .second, .val (.long x2), .second, iv x4, iv x5, iv x6, iv x7, .val (.long x8), .second, .val (.long x10), .second, .val (.double (FP.l2d x8)), .second, .val (.double (FP.l2d x10)), .second, .val (.double v1), .second, .val (.long ((x8 * x10) - Rr)), .second, .val (.double fv_1), .second, .val (.double fv_2), .second, .val (.double v2), .second, .val (.double v3), .second, .val (.double v4), .second, .val (.double pv_3), .second, .unset, .unset]) rfl (XS.lload X3.here hx rfl (hb hby at_112) rfl (XS.l2dS X3.here hx rfl (hb hby at_114) rfl rfl (XS.dload X3.here hx rfl (hb hby at_115) rfl kk_)))) ?_
  refine own_st (g' := (mkF m 120 #[.val (.long x0), .second, .val (.long x2), .second, iv x4, iv x5, iv x6, iv x7, .val (.long x8), .second, .val (.long x10), .second, .val (.double (FP.l2d x8)), .second, .val (.double (FP.l2d x10)), .second, .val (.double v1), .second, .val (.long ((x8 * x10) - Rr)), .second, .val (.double fv_1), .second, .val (.double fv_2), .second, .val (.double v2), .second, .val (.double v3), .second, .val (.double v4), .second, .val (.double pv_3), .second, .unset, .unset] [(.double fv_2), (.double v5)])) (fun tt_ kk_ => XS.dmulS X3.here hx rfl (hb hby at_117) rfl (own_nno r5.2.1) r5.1 (XS.dload X3.here hx rfl (hb hby at_118) rfl kk_)) ?_
  refine own_st (g' := (mkF m 127 #[.val (.long x0), .second, .val (.long x2), .second, iv x4, iv x5, iv x6, iv x7, .val (.long x8), .second, .val (.long x10), .second, .val (.double (FP.l2d x8)), .second, .val (.double (FP.l2d x10)), .second, .val (.double v1), .second, .val (.long ((x8 * x10) - Rr)), .second, .val (.double fv_1), .second, .val (.double fv_2), .second, .val (.double v2), .second, .val (.double v3), .second, .val (.double v4), .second, .val (.double pv_3), .second, .val (.double v6), .second] [(.double v6), (.double pv_3)])) (fun tt_ kk_ => XS.dmulS X3.here hx rfl (hb hby at_120) rfl (own_nno r6.2.1) r6.1 (XS.dstore X3.here hx rfl (hb hby at_121) rfl (l' := #[.val (.long x0), .second, .val (.long x2), .second, iv x4, iv x5, iv x6, iv x7, .val (.long x8), .second, .val (.long x10), .second, .val (.double (FP.l2d x8)), .second, .val (.double (FP.l2d x10)), .second, .val (.double v1), .second, .val (.long ((x8 * x10) - Rr)), .second, .val (.double fv_1), .second, .val (.double fv_2), .second, .val (.double v2), .second, .val (.double v3), .second, .val (.double v4), .second, .val (.double pv_3), .second, .val (.double v6), .second]) rfl (XS.dload X3.here hx rfl (hb hby at_123) rfl (XS.dload X3.here hx rfl (hb hby at_125) rfl kk_)))) ?_
  refine own_st (g' := (mkF m 136 #[.val (.long x0), .second, .val (.long x2), .second, iv x4, iv x5, iv x6, iv x7, .val (.long x8), .second, .val (.long x10), .second, .val (.double (FP.l2d x8)), .second, .val (.double (FP.l2d x10)), .second, .val (.double v1), .second, .val (.long ((x8 * x10) - Rr)), .second, .val (.double fv_1), .second, .val (.double fv_2), .second, .val (.double v2), .second, .val (.double v3), .second, .val (.double v4), .second, .val (.double pv_3), .second, .val (.double v6), .second] [(.int (1 : Int32))])) (fun tt_ kk_ => XS.dcmpS X3.here hx rfl (hb hby at_127) rfl (own_cmp0 f3_0 r6.2.2) (XS.ifNo X3.here hx rfl (hb hby at_128) rfl ((if0 _ _).trans (teq (by decide : (0 : Int32) = (0 : Int32))).2) (XS.iconst X3.here hx rfl (hb hby at_131) (XS.goto X3.here hx rfl (pc0 := 132) (pc' := 136) rfl (hb hby at_132) (by decide) (by decide) kk_)))) ?_
  exact own_retN X3 hx hlk (t := .boolean) (Or.inl rfl) hret (hb hby at_136) (by omega) (by omega) ⟨rfl, N3⟩
set_option maxRecDepth 65536 in
set_option maxHeartbeats 8000000 in
theorem own_t0 {p : Program} {l : Launch} {e : Env} {s : State} {m : MethodId} {args : Array Value} {below : List Frame} {meth : Method} {c : Code} {T : State} {locs : List Loc} {cells slots : Nat} {Z : State} {a0 : Array Value} {h0 : Heap} {n0 : Nat} (X0 : Stand p l e room_1 s m args below meth c T locs cells slots) (hx : p.tables.exec = Jvm.exec) (hlk : meth.locks = false) (hby : c.code = code) (hml : c.maxLocals = 34) (hret : meth.sig.returnType = some .boolean) (hown : s.vm.findClass "com/example/weigh/weigh/analysis/DoubleDoubleProductErrorPinLaw" = some m.cls) (hZ : Z.Warmed39 s.vm) (hw : own_HW Z a0) (e0 : T.heap = h0) (N0 : Fr n0 locs) (Z0 : n0 ≤ h0.size) (hcc : cells ≤ 0) (hss : slots ≤ 0) (x0 : Int64) (x2 : Int64) (x4 : Int32) (x5 : Int32) :
    own_Go p e below s T (mkF m 0 #[.val (.long x0), .second, .val (.long x2), .second, iv x4, iv x5, .unset, .unset, .unset, .unset, .unset, .unset, .unset, .unset, .unset, .unset, .unset, .unset, .unset, .unset, .unset, .unset, .unset, .unset, .unset, .unset, .unset, .unset, .unset, .unset, .unset, .unset, .unset, .unset] []) (own_Q0 n0) 0 0 := by
  refine own_st (g' := (mkF m 20 #[.val (.long x0), .second, .val (.long x2), .second, iv x4, iv x5, iv ((11 : Int32) + ((x4 &&& (2147483647 : Int32)) % (43 : Int32))), iv ((64 : Int32) - ((11 : Int32) + ((x4 &&& (2147483647 : Int32)) % (43 : Int32)))), .unset, .unset, .unset, .unset, .unset, .unset, .unset, .unset, .unset, .unset, .unset, .unset, .unset, .unset, .unset, .unset, .unset, .unset, .unset, .unset, .unset, .unset, .unset, .unset, .unset, .unset] [])) (fun tt_ kk_ => XS.bipush X0.here hx rfl (hb hby at_0) (XS.iload X0.here hx rfl (hb hby at_2) rfl (X0.ldcInt hx hown (mvT hZ (own_w hw 0 rfl)) (g := (mkF m 4 #[.val (.long x0), .second, .val (.long x2), .second, iv x4, iv x5, .unset, .unset, .unset, .unset, .unset, .unset, .unset, .unset, .unset, .unset, .unset, .unset, .unset, .unset, .unset, .unset, .unset, .unset, .unset, .unset, .unset, .unset, .unset, .unset, .unset, .unset, .unset, .unset] [(.int x4), (.int (11 : Int32))])) rfl (hb hby at_4) _ (XS.iand X0.here hx rfl (hb hby at_6) rfl (XS.bipush X0.here hx rfl (hb hby at_7) (iremM X0 hx rfl (hb hby at_9) rfl (by decide) (XS.iadd X0.here hx rfl (hb hby at_10) rfl (XS.istore X0.here hx rfl (hb hby at_11) rfl (l' := #[.val (.long x0), .second, .val (.long x2), .second, iv x4, iv x5, iv ((11 : Int32) + ((x4 &&& (2147483647 : Int32)) % (43 : Int32))), .unset, .unset, .unset, .unset, .unset, .unset, .unset, .unset, .unset, .unset, .unset, .unset, .unset, .unset, .unset, .unset, .unset, .unset, .unset, .unset, .unset, .unset, .unset, .unset, .unset, .unset, .unset]) rfl (XS.bipush X0.here hx rfl (hb hby at_13) (XS.iload X0.here hx rfl (hb hby at_15) rfl (XS.isub X0.here hx rfl (hb hby at_17) rfl (XS.istore X0.here hx rfl (hb hby at_18) rfl (l' := #[.val (.long x0), .second, .val (.long x2), .second, iv x4, iv x5, iv ((11 : Int32) + ((x4 &&& (2147483647 : Int32)) % (43 : Int32))), iv ((64 : Int32) - ((11 : Int32) + ((x4 &&& (2147483647 : Int32)) % (43 : Int32)))), .unset, .unset, .unset, .unset, .unset, .unset, .unset, .unset, .unset, .unset, .unset, .unset, .unset, .unset, .unset, .unset, .unset, .unset, .unset, .unset, .unset, .unset, .unset, .unset, .unset, .unset]) rfl kk_)))))))))))) ?_
  refine own_st (g' := (mkF m 32 #[.val (.long x0), .second, .val (.long x2), .second, iv x4, iv x5, iv ((11 : Int32) + ((x4 &&& (2147483647 : Int32)) % (43 : Int32))), iv ((64 : Int32) - ((11 : Int32) + ((x4 &&& (2147483647 : Int32)) % (43 : Int32)))), .val (.long (x0 >>> (((11 : Int32) + ((x4 &&& (2147483647 : Int32)) % (43 : Int32))) &&& 0x3f).toInt64)), .second, .val (.long (x2 >>> (((64 : Int32) - ((11 : Int32) + ((x4 &&& (2147483647 : Int32)) % (43 : Int32)))) &&& 0x3f).toInt64)), .second, .unset, .unset, .unset, .unset, .unset, .unset, .unset, .unset, .unset, .unset, .unset, .unset, .unset, .unset, .unset, .unset, .unset, .unset, .unset, .unset, .unset, .unset] [])) (fun tt_ kk_ => XS.lloadN X0.here hx rfl (hb hby at_20) rfl (XS.iload X0.here hx rfl (hb hby at_21) rfl (XS.lshr X0.here hx rfl (hb hby at_23) rfl (XS.lstore X0.here hx rfl (hb hby at_24) rfl (l' := #[.val (.long x0), .second, .val (.long x2), .second, iv x4, iv x5, iv ((11 : Int32) + ((x4 &&& (2147483647 : Int32)) % (43 : Int32))), iv ((64 : Int32) - ((11 : Int32) + ((x4 &&& (2147483647 : Int32)) % (43 : Int32)))), .val (.long (x0 >>> (((11 : Int32) + ((x4 &&& (2147483647 : Int32)) % (43 : Int32))) &&& 0x3f).toInt64)), .second, .unset, .unset, .unset, .unset, .unset, .unset, .unset, .unset, .unset, .unset, .unset, .unset, .unset, .unset, .unset, .unset, .unset, .unset, .unset, .unset, .unset, .unset, .unset, .unset]) rfl (XS.lloadN X0.here hx rfl (hb hby at_26) rfl (XS.iload X0.here hx rfl (hb hby at_27) rfl (XS.lshr X0.here hx rfl (hb hby at_29) rfl (XS.lstore X0.here hx rfl (hb hby at_30) rfl (l' := #[.val (.long x0), .second, .val (.long x2), .second, iv x4, iv x5, iv ((11 : Int32) + ((x4 &&& (2147483647 : Int32)) % (43 : Int32))), iv ((64 : Int32) - ((11 : Int32) + ((x4 &&& (2147483647 : Int32)) % (43 : Int32)))), .val (.long (x0 >>> (((11 : Int32) + ((x4 &&& (2147483647 : Int32)) % (43 : Int32))) &&& 0x3f).toInt64)), .second, .val (.long (x2 >>> (((64 : Int32) - ((11 : Int32) + ((x4 &&& (2147483647 : Int32)) % (43 : Int32)))) &&& 0x3f).toInt64)), .second, .unset, .unset, .unset, .unset, .unset, .unset, .unset, .unset, .unset, .unset, .unset, .unset, .unset, .unset, .unset, .unset, .unset, .unset, .unset, .unset, .unset, .unset]) rfl kk_)))))))) ?_
  exact own_t32 X0 hx hlk hby hml hret hown hZ hw e0 N0 Z0 (by omega) (by omega) x0 x2 x4 x5 ((11 : Int32) + ((x4 &&& (2147483647 : Int32)) % (43 : Int32))) ((64 : Int32) - ((11 : Int32) + ((x4 &&& (2147483647 : Int32)) % (43 : Int32)))) (x0 >>> (((11 : Int32) + ((x4 &&& (2147483647 : Int32)) % (43 : Int32))) &&& 0x3f).toInt64) (x2 >>> (((64 : Int32) - ((11 : Int32) + ((x4 &&& (2147483647 : Int32)) % (43 : Int32)))) &&& 0x3f).toInt64) (own_two x4 rfl rfl)
theorem own_ef0 (m : MethodId) (x0 : Int64) (x2 : Int64) (x4 : Int32) (x5 : Int32) : entryFrame m #[(.long x0), (.long x2), (.int x4), (.int x5)] maxLocals = mkF m 0 #[.val (.long x0), .second, .val (.long x2), .second, iv x4, iv x5, .unset, .unset, .unset, .unset, .unset, .unset, .unset, .unset, .unset, .unset, .unset, .unset, .unset, .unset, .unset, .unset, .unset, .unset, .unset, .unset, .unset, .unset, .unset, .unset, .unset, .unset, .unset, .unset] [] := by first | (simp [entryFrame, mkF, argsToLocals, Value.category, maxLocals]; done) | rfl
set_option maxRecDepth 65536 in
set_option maxHeartbeats 4000000 in
theorem own_rm0 (l : Launch) (Z : State) (a0 : Array Value) (hw : own_HW Z a0) (ws : List Jvm.Cond) (x0 : Int64) (x2 : Int64) (x4 : Int32) (x5 : Int32) (h0 : Heap) (n0 : Nat) (Z0 : n0 ≤ h0.size) :
    MetFree l x (head1 (Jvm.Cond.code x code maxLocals ret :: ws) room_1) (fun aa UU => aa = #[(.long x0), (.long x2), (.int x4), (.int x5)] ∧ Z.Warmed39 UU.vm ∧ UU.heap = h0) (fun _ _ _ _ _ => True) (fun _ U o U' => ∃ v L, o = .returned v ∧ own_Q0 n0 v U'.heap L ∧ FrameEnd U o U' L 0 0) := by
  refine MetFree.of_bodySF (plainFor_of_name own_pn0) hisR ?_
  intro p e s m args below meth c s₁ Bd hml0 hP hK
  obtain ⟨rfl, hZ, hh⟩ := hP
  have X0 : Stand p l e room_1 s m #[(.long x0), (.long x2), (.int x4), (.int x5)] below meth c s₁ [] 0 0 := Stand.of_body Bd
  have e0 : s₁.heap = h0 := by rw [← hh, Bd.state]; rfl
  refine own_cast (own_ef0 m x0 x2 x4 x5) ?_
  exact own_t0 X0 Bd.exec Bd.notSynchronized Bd.bytes hml0 Bd.returns (findClass_of_methodNamed Bd.named) hZ hw e0 (Fr.nil n0) Z0 (by decide) (by decide) x0 x2 x4 x5
set_option maxRecDepth 65536 in
set_option maxHeartbeats 4000000 in
theorem own_comes_1 {Post : Tables → Env → Array Value → State → Outcome → State → Prop} (hpost : ∀ tb e args s v u, (limb_1_1.after args s (.returned v) u = true ∧ limb_1_2.after args s (.returned v) u = true ∧ True) → FrameEnd s (.returned v) u (Jvm.fieldLocs frame_1_writes args s ++ Jvm.arrayLocs frame_1_arrays args s ++ Jvm.staticLocs frame_1_statics s) 0 0 → Post tb e args s (.returned v) u) :
    ArmFor flags0 classFile x code maxLocals ret World_1 tables_1 room_1 Calls_1 rest_1 Pre_1 Post := by
  intro l hfl _ _ p e ha hc hk s m args below hf hA hF happ hP
  obtain ⟨hcalls, hrest, hpre⟩ := hP
  obtain ⟨-, -, -, hnamed, -, -, -, hat⟩ := (Spec.applies_iff hf).mp happ
  obtain ⟨hg, hn⟩ := and_e (Cond.before_iff.mp (show (Jvm.Cond.and given_1 narrow_1).before args s = true from hpre))
  obtain ⟨gg1, gg2⟩ := and_e hg
  obtain ⟨gg3, gg4⟩ := and_e gg2
  obtain ⟨gg5, gg6⟩ := and_e gg4
  obtain ⟨gg7, gg8⟩ := and_e gg6
  obtain ⟨w0, w1, w2, w3, rfl⟩ : ∃ w0 w1 w2 w3 : Value, args = #[w0, w1, w2, w3] := by
    have hs : args.size = 4 := by simpa [Cond.value, given_1] using gg1
    obtain ⟨L⟩ := args
    match L, hs with
    | [w0, w1, w2, w3], _ => exact ⟨w0, w1, w2, w3, rfl⟩
  have hw := fun d (hd : d ∈ tables_1) => atoms_spec (ws := Jvm.Cond.code x code maxLocals ret :: tables_1) hat d (List.mem_cons_of_mem _ hd)
  have hfit : Fit s := fun {y c} hc i hi => by
    obtain ⟨ha, rfl⟩ := Array.getElem?_eq_some_iff.mp hc
    have q := List.all_eq_true.mp ((Array.all_eq_true_iff_forall_mem.mp hF) _ (Array.getElem_mem ha)) i (List.mem_range.mpr hi)
    simpa [Array.getElem?_eq_getElem hi] using q
  obtain ⟨i0, ei0⟩ := isL_v gg3
  obtain rfl : w0 = (.long i0) := Option.some.inj ei0
  obtain ⟨i1, ei1⟩ := isL_v gg5
  obtain rfl : w1 = (.long i1) := Option.some.inj ei1
  obtain ⟨i2, ei2⟩ := is_v gg7
  obtain rfl : w2 = (.int i2) := Option.some.inj ei2
  obtain ⟨i3, ei3⟩ := is_v gg8
  obtain rfl : w3 = (.int i3) := Option.some.inj ei3
  obtain ⟨n, o, h1, h2, h3, _, L, rfl, ⟨rfl, N⟩, hq⟩ := own_rm0 l s _ hw tables_1 i0 i1 i2 i3 s.heap s.heap.size (Nat.le_refl _) p e ha hc hk s m _ below hf ((Spec.applies_iff_loose hf).mp happ).1 ⟨rfl, State.Warmed39.refl s, rfl⟩ trivial
  refine ⟨n, _, h1, h2, h3, hpost _ _ _ _ _ _ ⟨Cond.after_iff.mpr rfl, Cond.after_iff.mpr (eq_i res_at (Term.int_eval (1)) rfl), trivial⟩ ⟨hq.1, hq.2.1, (hq.2.2.sift fun y hy => Or.inr (N y hy)).mono (by decide) (by decide)⟩⟩
theorem main_1_1 : Claimed_1_1 := own_comes_1 fun _ _ _ _ _ _ h hF => ⟨h.1, hF⟩
theorem main_1_2 : Claimed_1_2 := own_comes_1 fun _ _ _ _ _ _ h hF => ⟨h.2.1, hF⟩
end Jvm.Pilot.@@N@@
namespace Jvm.Pilot.@@N@@
open Jvm Jvm.ClassFile Sem Op Lib Jvm.Free Jvm.Stand Jvm.Pilot.@@N@@.Jvm.D
/-! MADE BY PROGRAM (witnessworld.py) out of the Statement's table words and the real class files: 7 classes; the members and pool entries that the words name. The judged class is class 1, her method 3. -/
namespace start1
open Jvm.ClassFile
def u (s : String) : CpInfo := .utf8 (stringToUtf16 s)
/-- a pool by its gaps: so many unusable entries, then the entry; so many at the end -/
def gap : Nat → List CpInfo → List CpInfo
  | 0, r => r
  | n + 1, r => .unusable :: gap n r
def poolList (es : List (Nat × CpInfo)) (last : Nat) : List CpInfo := es.foldr (fun e r => gap e.1 (e.2 :: r)) (gap last [])
def pool (es : List (Nat × CpInfo)) (last : Nat) : Array CpInfo := ⟨poolList es last⟩
def fileOf (pool : Array CpInfo) (this : Nat) (attrs : Array Attribute := #[]) (ms : Array MethodInfo := #[]) (fl : Nat := 33) (sup : Nat := 0) (ifs : Array Nat := #[]) (fds : Array FieldInfo := #[]) : ClassFile where
  minorVersion := 0
  majorVersion := 65
  constantPool := pool
  accessFlags := fl
  thisClass := this
  superClass := sup
  interfaces := ifs
  fields := fds
  methods := ms
  attributes := attrs
def plain (name : String) (sup : Option ClassId) : Class where
  name := name
  kind := .ordinary
  loader := none
  accessFlags := 33
  super := sup
  interfaces := #[]
  cf := none
  fields := #[]
  methods := #[]
  instanceTypes := #[]
  staticTypes := #[]
  resolved := #[]
  callSites := []
  init := .initialized
  statics := none
  mirror := none

def pool0 : Array CpInfo := pool [(5, u "<init>"), (0, u "()V"), (1, .class_ 10), (1, u "java/lang/Object")] 113

def k0m0 : Method := { name := "<init>", desc := "()V", sig := { parameters := [], returnType := none }, accessFlags := 1, code := none }
/-- java/lang/Object -/
def k0 : Class := { plain "java/lang/Object" none with
  accessFlags := 33
  interfaces := #[]
  cf := some (fileOf pool0 8 #[] #[{ accessFlags := 1, nameIndex := 5, descriptorIndex := 6, attributes := #[] }] 33 0 #[] #[])
  fields := #[]
  methods := #[k0m0]
  instanceTypes := #[]
  staticTypes := #[]
  resolved := Array.replicate 124 none
  statics := none }

def pool1 : Array CpInfo := pool [(2, .class_ 4), (1, u "java/lang/Object"), (0, u "<init>"), (0, u "()V"), (0, .double 6408622269748215808), (1, .double 2355382605114769408), (1, .double 4336966441157787648), (1, .double 2805742567851819008), (1, .double 4877398396442247168), (1, .double 2305843009213693952), (1, .integer 2147483647), (0, .methodref 21 22), (0, .class_ 23), (0, .nameAndType 24 25), (0, u "com/example/weigh/weigh/analysis/DoubleDoubleProductErrorPinLaw"), (0, u "scaleA"), (0, u "(I)D"), (0, .methodref 21 27), (0, .nameAndType 28 25), (0, u "scaleB"), (0, .methodref 30 31), (0, .class_ 32), (0, .nameAndType 33 34), (0, u "com/example/weigh/weigh/analysis/DoubleDouble"), (0, u "productError"), (0, u "(DDD)D"), (3, u "law"), (0, u "(JJII)Z")] 2

def k1m0 : Method := { name := "<init>", desc := "()V", sig := { parameters := [], returnType := none }, accessFlags := 1, code := none }
def k1c1 : Code := { maxStack := 2, maxLocals := 1, code := method_2_code, exceptionTable := #[], attributes := #[] }
def k1m1 : Method := { name := "scaleA", desc := "(I)D", sig := { parameters := [.int], returnType := some .double }, accessFlags := 10, code := some k1c1 }
def k1c2 : Code := { maxStack := 2, maxLocals := 1, code := method_3_code, exceptionTable := #[], attributes := #[] }
def k1m2 : Method := { name := "scaleB", desc := "(I)D", sig := { parameters := [.int], returnType := some .double }, accessFlags := 10, code := some k1c2 }
def k1c3 : Code := { maxStack := 6, maxLocals := 34, code := code, exceptionTable := #[], attributes := #[] }
def k1m3 : Method := { name := "law", desc := "(JJII)Z", sig := { parameters := [.long, .long, .int, .int], returnType := some .boolean }, accessFlags := 9, code := some k1c3 }
/-- com/example/weigh/weigh/analysis/DoubleDoubleProductErrorPinLaw -/
def k1 : Class := { plain "com/example/weigh/weigh/analysis/DoubleDoubleProductErrorPinLaw" (some 0) with
  accessFlags := 49
  interfaces := #[]
  cf := some (fileOf pool1 21 #[] #[{ accessFlags := 1, nameIndex := 5, descriptorIndex := 6, attributes := #[] }, { accessFlags := 10, nameIndex := 24, descriptorIndex := 25, attributes := #[] }, { accessFlags := 10, nameIndex := 28, descriptorIndex := 25, attributes := #[] }, { accessFlags := 9, nameIndex := 38, descriptorIndex := 39, attributes := #[] }] 49 2 #[] #[])
  fields := #[]
  methods := #[k1m0, k1m1, k1m2, k1m3]
  instanceTypes := #[]
  staticTypes := #[]
  resolved := Array.replicate 42 none
  statics := none }

def pool2 : Array CpInfo := pool [(2, .class_ 4), (1, u "java/lang/Object"), (0, u "<init>"), (0, u "()V"), (1, .class_ 10), (1, u "com/example/weigh/weigh/analysis/DoubleDouble"), (0, u "high"), (0, u "D"), (3, u "(DDD)D"), (2, u "low"), (0, .double 4728779608772575232), (1, u "SPLITTER"), (8, u "productError")] 2

def k2m0 : Method := { name := "<init>", desc := "()V", sig := { parameters := [], returnType := none }, accessFlags := 0, code := none }
def k2c1 : Code := { maxStack := 6, maxLocals := 18, code := prog_12_method_6_code, exceptionTable := #[], attributes := #[] }
def k2m1 : Method := { name := "productError", desc := "(DDD)D", sig := { parameters := [.double, .double, .double], returnType := some .double }, accessFlags := 8, code := some k2c1 }
/-- com/example/weigh/weigh/analysis/DoubleDouble -/
def k2 : Class := { plain "com/example/weigh/weigh/analysis/DoubleDouble" (some 0) with
  accessFlags := 32
  interfaces := #[]
  cf := some (fileOf pool2 8 #[] #[{ accessFlags := 0, nameIndex := 5, descriptorIndex := 6, attributes := #[] }, { accessFlags := 8, nameIndex := 31, descriptorIndex := 16, attributes := #[] }] 32 2 #[] #[{ accessFlags := 26, nameIndex := 22, descriptorIndex := 12, attributes := #[] }, { accessFlags := 2, nameIndex := 11, descriptorIndex := 12, attributes := #[] }, { accessFlags := 2, nameIndex := 19, descriptorIndex := 12, attributes := #[] }])
  fields := #[{ name := "SPLITTER", type := .double, accessFlags := 26, slot := 0, constantValue := 0 }, { name := "high", type := .double, accessFlags := 2, slot := 0, constantValue := 0 }, { name := "low", type := .double, accessFlags := 2, slot := 1, constantValue := 0 }]
  methods := #[k2m0, k2m1]
  instanceTypes := #[.double, .double]
  staticTypes := #[.double]
  resolved := Array.replicate 34 none
  statics := none }

def pool3 : Array CpInfo := pool [(1, u "java/lang/Cloneable"), (0, .class_ 1), (0, u "java/lang/Object"), (0, .class_ 3)] 3

/-- java/lang/Cloneable -/
def k3 : Class := { plain "java/lang/Cloneable" (some 0) with
  accessFlags := 1537
  interfaces := #[]
  cf := some (fileOf pool3 2 #[] #[] 1537 4 #[] #[])
  fields := #[]
  methods := #[]
  instanceTypes := #[]
  staticTypes := #[]
  resolved := Array.replicate 8 none
  statics := none }

def pool4 : Array CpInfo := pool [(1, u "java/io/Serializable"), (0, .class_ 1), (0, u "java/lang/Object"), (0, .class_ 3)] 3

/-- java/io/Serializable -/
def k4 : Class := { plain "java/io/Serializable" (some 0) with
  accessFlags := 1537
  interfaces := #[]
  cf := some (fileOf pool4 2 #[] #[] 1537 4 #[] #[])
  fields := #[]
  methods := #[]
  instanceTypes := #[]
  staticTypes := #[]
  resolved := Array.replicate 8 none
  statics := none }

/-- the primitive byte -/
def k5 : Class := { plain "byte" none with kind := .primitive 'B', accessFlags := 0x411 }
/-- [B -/
def k6 : Class := { plain "[B" (some 0) with kind := .array 5 .byte, interfaces := #[3, 4], accessFlags := 1041 }

def heap : Heap := #[]
def classes : Array Class := #[k0, k1, k2, k3, k4, k5, k6]
def interned : List (Array UInt16 × Addr) := []
def slotsUsed : Nat := 0
def theMethod : MethodId := ⟨1, 3⟩
def args0 : Array Value := #[.long 5, .long 3, .int 1, .int 2]
def aboutOver (below : List Frame) : State where
  vm := { classes := classes, interned := interned.toArray }
  heap := heap
  slotsUsed := slotsUsed
  threads := #[{ frames := .invoking theMethod args0 :: below }]
def below0 : List Frame := [.native { method := ⟨0, 0⟩, args := #[] }]
def about1 : State := aboutOver below0
def p0 : Program := .bare "" "" ""
def e0 : Env := launch0.env 0 0 0
theorem w_frames : about1.frames = Frame.invoking theMethod args0 :: below0 := rfl
set_option maxRecDepth 65536 in
theorem w_args : argsFit about1.vm theMethod args0 = true := by decide +kernel
set_option maxRecDepth 65536 in
theorem w_heap : heapFits about1 = true := by decide +kernel
set_option maxRecDepth 65536 in
theorem w_runnable : about1.curStatus? = some .runnable := by decide +kernel
set_option maxRecDepth 65536 in
theorem w_alone : about1.alone = true := by decide +kernel
set_option maxRecDepth 65536 in
theorem w_named : about1.methodNamed? x = some theMethod := by decide +kernel
set_option maxRecDepth 65536 in
theorem w_hears : about1.hears theMethod below0 = true := by decide +kernel
set_option maxRecDepth 65536 in
theorem w_ripe : about1.ripe theMethod args0 below0 = true := by decide +kernel
theorem w_running : about1.status = .running := rfl
set_option maxRecDepth 65536 in
theorem w_room : about1.hasRoom e0.platform room_1 = true :=
  launch0.hasRoom_least _ room_1 (by decide +kernel) (by decide +kernel) (by decide +kernel) (by decide +kernel) (by decide +kernel) (by decide +kernel)
theorem allAtoms_all (ts : List Jvm.Cond) (a : Array Jvm.Value) (st : Jvm.State) : (allAtoms ts).before a st = ts.all (fun c => c.before a st) := by
  induction ts with
  | nil => rfl
  | cons c t ih =>
    show (Jvm.Cond.and c (allAtoms t)).before a st = _
    rw [Jvm.Cond.before_and, ih, List.all_cons]
def words1 : List Jvm.Cond := Jvm.Cond.code x code maxLocals ret :: tables_1
/-- a 'code' word, met by the world's own term for the bytes: nothing is compared byte by byte -/
theorem code_word {y : MethodName} {bytes : ByteArray} {mx : Nat} {rt : Option FieldType} {a : Array Value} {s : State} {m : MethodId} {meth : Method} {c : Code} (h1 : s.methodNamed? y = some m) (h2 : s.vm.method? m = some meth) (h3 : meth.code = some c) (h4 : c.code = bytes)
    (h5 : (c.maxLocals == mx && c.exceptionTable.isEmpty && decide (c.maxStack ≤ mostOperands) && decide (meth.sig.returnType = rt) && !meth.locks && decide (parseMethodDescriptor y.desc = some meth.sig)) = true) : (Jvm.Cond.code y bytes mx rt).before a s = true := by
  simp only [Bool.and_eq_true, beq_iff_eq, Bool.not_eq_true', decide_eq_true_eq] at h5
  obtain ⟨⟨⟨⟨⟨g1, g2⟩, g3⟩, g4⟩, g5⟩, g6⟩ := h5
  simp [Cond.before, Cond.holds, Cond.value, h1, h2, h3, h4, g1, g2, g3, g4, g5, g6]
def isCode : Jvm.Cond → Bool
  | .code _ _ _ _ => true
  | _ => false
theorem all_split {L : List Jvm.Cond} {P : Jvm.Cond → Bool} (h1 : L.all (fun c => isCode c || P c) = true) (h2 : ∀ c ∈ L.filter isCode, P c = true) : L.all P = true := by
  refine List.all_eq_true.mpr fun c hc => ?_
  have h := List.all_eq_true.mp h1 c hc
  rcases Bool.eq_false_or_eq_true (isCode c) with hi | hi
  · exact h2 c (List.mem_filter.mpr ⟨hc, hi⟩)
  · simpa [hi] using h
set_option maxRecDepth 65536 in
theorem w_c0 : (Jvm.Cond.code x code maxLocals ret).before args0 about1 = true := code_word (m := ⟨1, 3⟩) (meth := k1m3) (c := k1c3) (by decide +kernel) rfl rfl rfl (by decide +kernel)
set_option maxRecDepth 65536 in
theorem w_c1 : (Jvm.Cond.code ({ cls := "com/example/weigh/weigh/analysis/DoubleDoubleProductErrorPinLaw", name := "scaleA", desc := "(I)D" } : Jvm.MethodName) method_2_code (1 : Nat) (Option.some Jvm.ClassFile.FieldType.double)).before args0 about1 = true := code_word (m := ⟨1, 1⟩) (meth := k1m1) (c := k1c1) (by decide +kernel) rfl rfl rfl (by decide +kernel)
set_option maxRecDepth 65536 in
theorem w_c2 : (Jvm.Cond.code ({ cls := "com/example/weigh/weigh/analysis/DoubleDoubleProductErrorPinLaw", name := "scaleB", desc := "(I)D" } : Jvm.MethodName) method_3_code (1 : Nat) (Option.some Jvm.ClassFile.FieldType.double)).before args0 about1 = true := code_word (m := ⟨1, 2⟩) (meth := k1m2) (c := k1c2) (by decide +kernel) rfl rfl rfl (by decide +kernel)
set_option maxRecDepth 65536 in
theorem w_c3 : (Jvm.Cond.code ({ cls := "com/example/weigh/weigh/analysis/DoubleDouble", name := "productError", desc := "(DDD)D" } : Jvm.MethodName) prog_12_method_6_code (18 : Nat) (Option.some Jvm.ClassFile.FieldType.double)).before args0 about1 = true := code_word (m := ⟨2, 1⟩) (meth := k2m1) (c := k2c1) (by decide +kernel) rfl rfl rfl (by decide +kernel)
def codes1 : List Jvm.Cond := [Jvm.Cond.code x code maxLocals ret, Jvm.Cond.code ({ cls := "com/example/weigh/weigh/analysis/DoubleDoubleProductErrorPinLaw", name := "scaleA", desc := "(I)D" } : Jvm.MethodName) method_2_code (1 : Nat) (Option.some Jvm.ClassFile.FieldType.double), Jvm.Cond.code ({ cls := "com/example/weigh/weigh/analysis/DoubleDoubleProductErrorPinLaw", name := "scaleB", desc := "(I)D" } : Jvm.MethodName) method_3_code (1 : Nat) (Option.some Jvm.ClassFile.FieldType.double), Jvm.Cond.code ({ cls := "com/example/weigh/weigh/analysis/DoubleDouble", name := "productError", desc := "(DDD)D" } : Jvm.MethodName) prog_12_method_6_code (18 : Nat) (Option.some Jvm.ClassFile.FieldType.double)]
set_option maxRecDepth 65536 in
theorem codes_eq : words1.filter isCode = codes1 := rfl
theorem w_codes : ∀ c ∈ words1.filter isCode, c.before args0 about1 = true := by
  rw [codes_eq]
  intro c hc
  simp only [codes1, List.mem_cons, List.not_mem_nil, or_false] at hc
  rcases hc with rfl | rfl | rfl | rfl
  · exact w_c0
  · exact w_c1
  · exact w_c2
  · exact w_c3
set_option maxRecDepth 65536 in
theorem w_t1 : words1.all (fun c => isCode c || c.before args0 about1) = true := by decide +kernel
theorem w_tables : (allAtoms (Jvm.Cond.code x code maxLocals ret :: tables_1)).before args0 about1 = true := by
  rw [allAtoms_all]
  show words1.all (fun c => c.before args0 about1) = true
  refine all_split ?_ w_codes
  rw [w_t1]
set_option maxRecDepth 65536 in
theorem w_case : (Jvm.Cond.and given_1 narrow_1).before args0 about1 = true := by decide +kernel
theorem w_applies : (headSpec (Jvm.Cond.code x code maxLocals ret :: tables_1) room_1).applies x e0.platform about1 = true :=
  (Spec.applies_iff w_frames).mpr ⟨w_running, w_runnable, w_alone, w_named, w_hears, w_ripe, w_room, w_tables⟩
theorem atStart : AtStart classFile x code maxLocals ret World_1 tables_1 room_1 Calls_1 rest_1 Pre_1 launch0 p0 e0 about1 theMethod args0 below0 :=
  ⟨lists_1, trivial, launch0.admits_env _ _ _, launch0.least_env, fairChoices_fair.cas, fairChoices_fair.clock, w_frames, w_args, w_heap, w_applies, trivial, trivial, w_case⟩
end start1
theorem witness_1 : WitnessClaimed_1 := ⟨start1.p0, start1.e0, start1.about1, start1.theMethod, start1.args0, start1.below0, start1.atStart⟩
end Jvm.Pilot.@@N@@
