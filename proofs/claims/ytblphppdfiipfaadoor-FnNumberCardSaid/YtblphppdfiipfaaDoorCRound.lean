/- Rounding to the nearest double, the table of powers of ten, and the two fast ways of reading a decimal. Conditions: none. -/
import Ieee.Arith
import GoSem.PinnedTables
namespace Go.Proofs.YtblphppdfiipfaaDoor.Rnd

/-- n / m to the nearest whole number, half to even -/
def rhe (n m : Nat) : Nat := n / m + if m < 2 * (n % m) ∨ (m = 2 * (n % m) ∧ n / m % 2 = 1) then 1 else 0

theorem rhe_mul (n m c : Nat) (hc : 0 < c) : rhe (n * c) (m * c) = rhe n m := by
  unfold rhe
  rw [Nat.mul_div_mul_right _ _ hc, Nat.mul_mod_mul_right]
  have h1 : (m * c < 2 * (n % m * c)) ↔ m < 2 * (n % m) := by
    rw [← Nat.mul_assoc]; exact Nat.mul_lt_mul_right hc
  have h2 : (m * c = 2 * (n % m * c)) ↔ m = 2 * (n % m) := by
    rw [← Nat.mul_assoc]; exact ⟨fun h => Nat.eq_of_mul_eq_mul_right hc h, fun h => by rw [← h]⟩
  simp only [h1, h2]

theorem rhe_congr {n m n' m' : Nat} (hm : 0 < m) (hm' : 0 < m') (h : n * m' = n' * m) : rhe n m = rhe n' m' := by
  rw [← rhe_mul n m m' hm', h, ← rhe_mul n' m' m hm, Nat.mul_comm m m']

/-- 1074, behind a name -/
def N74 : Nat := 1074
theorem N74_eq : N74 = 1074 := rfl
/-- 2 to the 1074 -/
def S74 : Nat := 2 ^ N74
theorem S74_pos : 0 < S74 := Nat.two_pow_pos _

/-- the rung of infinity -/
def infR : Nat := 9218868437227405312

/-- 'b' is the word of the double nearest to n / m (q: the place, counted from the least) -/
def At (n m q b : Nat) : Prop :=
  (q = 0 ∨ 2 ^ 52 * (m * 2 ^ q) ≤ n * S74) ∧ n * S74 < 2 ^ 53 * (m * 2 ^ q) ∧ b = min (q * 2 ^ 52 + rhe (n * S74) (m * 2 ^ q)) infR
def IsR (n m b : Nat) : Prop := ∃ q, At n m q b

theorem At.le {n m q b n' m' q' b' : Nat} (hm : 0 < m) (h : n * m' = n' * m) (a : At n m q b) (a' : At n' m' q' b') : q ≤ q' := by
  obtain ⟨h1, _, _⟩ := a
  obtain ⟨_, h2, _⟩ := a'
  refine Nat.le_of_not_lt fun hlt => ?_
  rcases h1 with rfl | h1
  · omega
  -- n' 2^1074 < 2^53 m' 2^q', 2^52 m 2^q ≤ n 2^1074
  have e1 : 2 ^ 52 * (m * 2 ^ q) * m' ≤ n * S74 * m' := Nat.mul_le_mul_right _ h1
  have e2 : n' * S74 * m < 2 ^ 53 * (m' * 2 ^ q') * m := Nat.mul_lt_mul_of_pos_right h2 hm
  have e3 : n * S74 * m' = n' * S74 * m := by
    calc n * S74 * m' = n * m' * S74 := by rw [Nat.mul_right_comm]
      _ = n' * m * S74 := by rw [h]
      _ = n' * S74 * m := by rw [Nat.mul_right_comm]
  have e4 : 2 ^ (q' + 1) ≤ 2 ^ q := Nat.pow_le_pow_right (by omega) hlt
  have e5 : 2 ^ 53 * (m' * 2 ^ q') * m = 2 ^ 52 * (m * 2 ^ (q' + 1)) * m' := by
    rw [Nat.pow_succ 2 q', show (2 : Nat) ^ 53 = 2 ^ 52 * 2 from rfl]
    simp only [Nat.mul_assoc, Nat.mul_comm, Nat.mul_left_comm]
  have e6 : 2 ^ 52 * (m * 2 ^ (q' + 1)) * m' ≤ 2 ^ 52 * (m * 2 ^ q) * m' :=
    Nat.mul_le_mul_right _ (Nat.mul_le_mul_left _ (Nat.mul_le_mul_left _ e4))
  omega

/-- the word is fixed by the value -/
theorem IsR.unique {n m b n' m' b' : Nat} (hm : 0 < m) (hm' : 0 < m') (h : n * m' = n' * m) (a : IsR n m b) (a' : IsR n' m' b') : b = b' := by
  obtain ⟨q, a⟩ := a
  obtain ⟨q', a'⟩ := a'
  obtain rfl : q = q' := Nat.le_antisymm (a.le hm h a') (a'.le hm' h.symm a)
  rw [a.2.2, a'.2.2]
  have e : rhe (n * S74) (m * 2 ^ q) = rhe (n' * S74) (m' * 2 ^ q) := by
    refine rhe_congr (Nat.mul_pos hm (Nat.two_pow_pos _)) (Nat.mul_pos hm' (Nat.two_pow_pos _)) ?_
    calc n * S74 * (m' * 2 ^ q) = (n * m') * (S74 * 2 ^ q) := by simp only [Nat.mul_assoc, Nat.mul_left_comm]
        _ = (n' * m) * (S74 * 2 ^ q) := by rw [h]
        _ = n' * S74 * (m * 2 ^ q) := by simp only [Nat.mul_assoc, Nat.mul_left_comm]
  rw [e]
theorem IsR.scale {n m b : Nat} (c : Nat) (hc : 0 < c) (a : IsR n m b) : IsR (n * c) (m * c) b := by
  obtain ⟨q, h1, h2, h3⟩ := a
  have e1 : n * c * S74 = n * S74 * c := Nat.mul_right_comm ..
  have e2 : m * c * 2 ^ q = m * 2 ^ q * c := Nat.mul_right_comm ..
  refine ⟨q, ?_, ?_, ?_⟩
  · refine h1.imp id fun h => ?_
    rw [e1, e2, ← Nat.mul_assoc]
    exact Nat.mul_le_mul_right _ h
  · rw [e1, e2, ← Nat.mul_assoc]
    exact Nat.mul_lt_mul_of_pos_right h2 hc
  · rw [e1, e2, rhe_mul _ _ _ hc]
    exact h3
end Go.Proofs.YtblphppdfiipfaaDoor.Rnd
namespace Go.Proofs.YtblphppdfiipfaaDoor.Rnd

theorem or_one (x : Nat) : x ||| 1 = 2 * (x / 2) + 1 := by
  have h1 : (x ||| 1) % 2 = 1 := Nat.or_mod_two_eq_one.2 (.inr rfl)
  have h2 : (x ||| 1) / 2 = x / 2 := by rw [Nat.or_div_two]; simp
  omega

/-- a fraction's whole part, its last bit set where something is left over -/
def SF (N D : Nat) : Nat := N / D ||| (if N % D = 0 then 0 else 1)
/-- the rounding of two spare bits -/
def rnd4 (u : Nat) : Nat := (u + 1 + u / 4 % 2) / 4

theorem SF_eq (N D : Nat) : SF N D = if N % D = 0 then N / D else 2 * (N / D / 2) + 1 := by
  unfold SF
  split
  · simp
  · exact or_one _

theorem div4 (N D : Nat) : N / (D * 4) = N / D / 4 := Nat.div_div_eq_div_mul N D 4 ▸ rfl
theorem mod4 (N D : Nat) : N % (D * 4) = N / D % 4 * D + N % D := by
  have h1 := Nat.div_add_mod N (D * 4)
  have h2 := Nat.div_add_mod N D
  have h3 := Nat.div_add_mod (N / D) 4
  rw [div4] at h1
  have h4 : D * (N / D) = D * 4 * (N / D / 4) + N / D % 4 * D := by
    conv => lhs; rw [← h3]
    rw [Nat.mul_add, Nat.mul_assoc, Nat.mul_comm (N / D % 4) D]
  omega

theorem rnd4_SF (N D : Nat) (hD : 0 < D) : rnd4 (SF N D) = rhe N (D * 4) := by
  have hr := Nat.mod_lt N hD
  rw [SF_eq]
  unfold rhe rnd4
  rw [div4, mod4 N D]
  generalize N / D = q at *
  generalize N % D = r at *
  have hq : q % 4 = 0 ∨ q % 4 = 1 ∨ q % 4 = 2 ∨ q % 4 = 3 := by omega
  rcases hq with h | h | h | h <;> rw [h] <;> by_cases hz : r = 0 <;> simp only [hz, if_true, if_false] <;> (split <;> omega)

/-- one bit fewer -/
theorem SF_half (N D : Nat) (hD : 0 < D) : (SF N D / 2 ||| SF N D % 2) = SF N (D * 2) := by
  have e1 : SF N D % 2 = if N % (D * 2) = 0 then 0 else 1 := by
    have h1 := Nat.div_add_mod N D
    have h2 : N % (D * 2) = N / D % 2 * D + N % D := by
      have h3 := Nat.div_add_mod N (D * 2)
      have h5 := Nat.div_add_mod (N / D) 2
      have h6 : N / (D * 2) = N / D / 2 := (Nat.div_div_eq_div_mul N D 2).symm
      rw [h6] at h3
      have h4 : D * (N / D) = D * 2 * (N / D / 2) + N / D % 2 * D := by
        conv => lhs; rw [← h5]
        rw [Nat.mul_add, Nat.mul_assoc, Nat.mul_comm (N / D % 2) D]
      omega
    rw [h2, SF_eq]
    have hr := Nat.mod_lt N hD
    have hq : N / D % 2 = 0 ∨ N / D % 2 = 1 := by omega
    rcases hq with h | h <;> rw [h] <;> by_cases hz : N % D = 0 <;> simp only [hz, if_true, if_false] <;> (first | (split <;> omega) | omega)
  have e2 : SF N D / 2 = N / (D * 2) := by
    rw [SF_eq, ← Nat.div_div_eq_div_mul]
    split <;> omega
  rw [e1, e2]
  rfl

theorem SF_lo (N D : Nat) : N / D ≤ SF N D := by rw [SF_eq]; split <;> omega
theorem SF_le (N D : Nat) : SF N D ≤ N / D + 1 := by rw [SF_eq]; split <;> omega

/-- what uscale computes -/
def us (x hi lo s : Nat) : Nat :=
  let H := x * hi / 2 ^ 64
  let M := x * hi % 2 ^ 64
  if H % 2 ^ s ≠ 0 then H / 2 ^ s ||| 1
  else
    let m2 := x * lo / 2 ^ 64
    if M < m2 then (H - 1) / 2 ^ s ||| (if 1 < M + 2 ^ 64 - m2 then 1 else 0)
    else H / 2 ^ s ||| (if 1 < M - m2 then 1 else 0)

theorem SF_mid {N D k : Nat} (h1 : k * D < N) (h2 : N < (k + 1) * D) : SF N D = k ||| 1 := by
  have hq : N / D = k := Nat.div_eq_of_lt_le (Nat.le_of_lt h1) h2
  have hr : N % D ≠ 0 := by
    intro h
    have := Nat.div_add_mod N D
    rw [hq, h, Nat.mul_comm] at this
    omega
  rw [SF_eq, if_neg hr, hq, or_one]

theorem SF_exact {D : Nat} (k : Nat) (hD : 0 < D) : SF (k * D) D = k := by
  rw [SF_eq, if_pos (Nat.mul_mod_left k D), Nat.mul_div_cancel _ hD]

theorem pw (s : Nat) : 2 ^ (128 + s) = 340282366920938463463374607431768211456 * 2 ^ s := by rw [Nat.pow_add]

theorem us_SF {x hi lo s A B : Nat} (hx : x < 2 ^ 64) (hlo : lo < 2 ^ 64) (hl : lo ≤ hi * 2 ^ 64) (hs : 8 ≤ s) (hB : 0 < B)
    (hc1 : A ≤ (hi * 2 ^ 64 - lo) * B) (hc2 : (hi * 2 ^ 64 - lo) * B < A + B)
    (near : ∀ k, x * A ≠ k * (B * 2 ^ 136) → k * (B * 2 ^ 136) < x * A + 2 ^ 65 * B → x * A < k * (B * 2 ^ 136) + 2 ^ 65 * B → k % 2 = 1) :
    us x hi lo s = SF (x * A) (B * 2 ^ (128 + s)) := by
  -- the product as it is computed
  obtain ⟨Y, hY⟩ : ∃ Y, Y = x * (hi * 2 ^ 64 - lo) := ⟨_, rfl⟩
  have hYx : Y + x * lo = x * hi * 2 ^ 64 := by
    rw [hY, ← Nat.mul_add, Nat.sub_add_cancel hl, Nat.mul_assoc]
  have hN1 : x * A ≤ Y * B := by rw [hY, Nat.mul_assoc]; exact Nat.mul_le_mul_left x hc1
  have hN2 : Y * B < x * A + 2 ^ 64 * B := by
    have h1 : x * ((hi * 2 ^ 64 - lo) * B) ≤ x * A + x * B := by rw [← Nat.mul_add]; exact Nat.mul_le_mul_left x (Nat.le_of_lt hc2)
    have h2 : x * B < 2 ^ 64 * B := Nat.mul_lt_mul_of_pos_right hx hB
    rw [hY, Nat.mul_assoc]
    omega
  have hxl : x * lo ≤ 18446744073709551615 * 18446744073709551615 := Nat.mul_le_mul (by omega) (by omega)
  generalize hN : x * A = N at *
  generalize hxlo : x * lo = xl at *
  have hH := Nat.div_add_mod (x * hi) (2 ^ 64)
  have hM := Nat.mod_lt (x * hi) (show 0 < 2 ^ 64 by decide)
  have hm := Nat.div_add_mod xl (2 ^ 64)
  have hl2 := Nat.mod_lt xl (show 0 < 2 ^ 64 by decide)
  unfold us
  simp only [hxlo]
  generalize x * hi / 2 ^ 64 = H at *
  generalize x * hi % 2 ^ 64 = M at *
  generalize x * hi = xh at *
  generalize xl / 2 ^ 64 = m2 at *
  generalize xl % 2 ^ 64 = l2 at *
  rw [pw]
  have hZ : 256 ≤ 2 ^ s := Nat.pow_le_pow_right (n := 2) (by omega) hs
  obtain ⟨Z, hZe⟩ : ∃ Z, Z = 2 ^ s := ⟨_, rfl⟩
  rw [← hZe] at hZ ⊢
  have hHZ := Nat.div_add_mod H Z
  have hrZ := Nat.mod_lt H (show 0 < Z by omega)
  generalize hk : H / Z = k at *
  generalize hr : H % Z = r at *
  -- what lies between two whole numbers
  have lo_of : ∀ j, 340282366920938463463374607431768211456 * (Z * j) + 2 ^ 64 ≤ Y → j * (B * (340282366920938463463374607431768211456 * Z)) < N := by
    intro j h
    have h1 := Nat.mul_le_mul_right B h
    have h2 : (340282366920938463463374607431768211456 * (Z * j) + 2 ^ 64) * B = j * (B * (340282366920938463463374607431768211456 * Z)) + 2 ^ 64 * B := by
      rw [Nat.add_mul]; simp only [Nat.mul_assoc, Nat.mul_comm, Nat.mul_left_comm]
    omega
  have hi_of : ∀ j, Y < 340282366920938463463374607431768211456 * (Z * j) → N < j * (B * (340282366920938463463374607431768211456 * Z)) := by
    intro j h
    have h1 := Nat.mul_lt_mul_of_pos_right h hB
    have h2 : 340282366920938463463374607431768211456 * (Z * j) * B = j * (B * (340282366920938463463374607431768211456 * Z)) := by
      simp only [Nat.mul_assoc, Nat.mul_comm, Nat.mul_left_comm]
    omega
  have hkk : Z * (k + 1) = Z * k + Z := Nat.mul_succ Z k
  by_cases hr0 : r = 0
  · simp only [hr0, ne_eq, not_true_eq_false, if_false]
    by_cases hMm : M < m2
    · rw [if_pos hMm]
      have hk0 : 0 < k := by
        rcases Nat.eq_zero_or_pos k with h | h
        · subst h; simp at hHZ; omega
        · exact h
      obtain ⟨j, rfl⟩ : ∃ j, k = j + 1 := ⟨k - 1, by omega⟩
      have hjj : Z * (j + 1) = Z * j + Z := Nat.mul_succ Z j
      have e1 : (H - 1) / Z = j := Nat.div_eq_of_lt_le (by rw [Nat.mul_comm]; omega) (by rw [Nat.mul_comm]; omega)
      rw [e1, if_pos (by omega)]
      exact (SF_mid (lo_of j (by omega)) (hi_of (j + 1) (by omega))).symm
    · rw [if_neg hMm]
      by_cases hD1 : 1 < M - m2
      · rw [if_pos hD1]
        exact (SF_mid (lo_of k (by omega)) (hi_of (k + 1) (by omega))).symm
      · rw [if_neg hD1]
        simp only [Nat.or_zero]
        have hDp : 0 < B * (340282366920938463463374607431768211456 * Z) := Nat.mul_pos hB (by omega)
        by_cases hex : N = k * (B * (340282366920938463463374607431768211456 * Z))
        · rw [hex]; exact (SF_exact k hDp).symm
        · -- near, and not exact
          obtain ⟨c, hc⟩ : ∃ c, s = 8 + c := ⟨s - 8, by omega⟩
          have hZc : Z = 256 * 2 ^ c := by rw [hZe, hc, Nat.pow_add]
          have e2 : k * 2 ^ c * (B * 2 ^ 136) = k * (B * (340282366920938463463374607431768211456 * Z)) := by
            rw [hZc, show (2 : Nat) ^ 136 = 340282366920938463463374607431768211456 * 256 from rfl]
            simp only [Nat.mul_assoc, Nat.mul_comm, Nat.mul_left_comm]
          have h3 : 340282366920938463463374607431768211456 * (Z * k) * B = k * (B * (340282366920938463463374607431768211456 * Z)) := by
            simp only [Nat.mul_assoc, Nat.mul_comm, Nat.mul_left_comm]
          have h4 : Y * B ≤ (340282366920938463463374607431768211456 * (Z * k) + 2 ^ 64) * B := Nat.mul_le_mul_right B (by omega)
          have h5 : 340282366920938463463374607431768211456 * (Z * k) * B ≤ (Y + 2 ^ 64) * B := Nat.mul_le_mul_right B (by omega)
          rw [Nat.add_mul, h3] at h4
          rw [Nat.add_mul, h3] at h5
          have hodd := near (k * 2 ^ c) (by rw [e2]; exact hex) (by rw [e2]; omega) (by rw [e2]; omega)
          have hc0 : c = 0 := by
            rcases c with _ | c
            · rfl
            · rw [Nat.pow_succ, ← Nat.mul_assoc] at hodd; omega
          subst hc0
          simp at hodd
          rcases Nat.lt_or_gt_of_ne hex with hlt | hgt
          · obtain ⟨j, rfl⟩ : ∃ j, k = j + 1 := ⟨k - 1, by omega⟩
            have hjj : Z * (j + 1) = Z * j + Z := Nat.mul_succ Z j
            rw [SF_mid (lo_of j (by omega)) hlt, or_one]
            omega
          · rw [SF_mid hgt (hi_of (k + 1) (by omega)), or_one]
            omega
  · rw [if_pos (by exact hr0)]
    exact (SF_mid (lo_of k (by omega)) (hi_of (k + 1) (by omega))).symm
end Go.Proofs.YtblphppdfiipfaaDoor.Rnd
namespace Go.Proofs.YtblphppdfiipfaaDoor.Rnd

/-- pack64 at sign 0 -/
def pack (m : Nat) (e : Int) : Nat := if m / 2 ^ 52 % 2 = 0 then m else if 972 ≤ e then infR else m - 2 ^ 52 + (1075 + e).toNat * 2 ^ 52

/-- parseFloat64 at sign 0, behind the table's look-up -/
def pfm (d b : Nat) (lp : Int) (hi lo : Nat) : Nat :=
  let e := min 1074 (53 - (b : Int) - lp)
  let s := 61 - (b : Int) - e - lp
  if 64 ≤ s then 0 else
  let u := us (d * 2 ^ (64 - b)) hi lo s.toNat
  if 2 ^ 55 - 2 ≤ u then pack (rnd4 (u / 2 ||| u % 2)) (1 - e) else pack (rnd4 u) (-e)

/-- what is asked of a row of the table: 10 to the p is nP / mP -/
structure RowOk (lp : Int) (hi lo nP mP : Nat) : Prop where
  nP0 : 0 < nP
  mP0 : 0 < mP
  hi64 : hi < 2 ^ 64
  lo64 : lo < 2 ^ 64
  lohi : lo ≤ hi * 2 ^ 64
  c1 : nP * 2 ^ (127 - lp).toNat ≤ (hi * 2 ^ 64 - lo) * (mP * 2 ^ (lp - 127).toNat)
  c2 : (hi * 2 ^ 64 - lo) * (mP * 2 ^ (lp - 127).toNat) < nP * 2 ^ (127 - lp).toNat + mP * 2 ^ (lp - 127).toNat
  g1 : 2 ^ 127 * (mP * 2 ^ (lp - 127).toNat) ≤ nP * 2 ^ (127 - lp).toNat
  g2 : 1025 * (nP * 2 ^ (127 - lp).toNat) ≤ 1024 * 2 ^ 128 * (mP * 2 ^ (lp - 127).toNat)
  near : ∀ x k, 2 ^ 63 ≤ x → x < 2 ^ 64 → x * (nP * 2 ^ (127 - lp).toNat) ≠ k * (mP * 2 ^ (lp - 127).toNat * 2 ^ 136) →
    k * (mP * 2 ^ (lp - 127).toNat * 2 ^ 136) < x * (nP * 2 ^ (127 - lp).toNat) + 2 ^ 65 * (mP * 2 ^ (lp - 127).toNat) →
    x * (nP * 2 ^ (127 - lp).toNat) < k * (mP * 2 ^ (lp - 127).toNat * 2 ^ 136) + 2 ^ 65 * (mP * 2 ^ (lp - 127).toNat) → k % 2 = 1

theorem rhe_le {N D k : Nat} (hD : 0 < D) (h : N ≤ k * D) : rhe N D ≤ k := by
  unfold rhe
  have h1 := Nat.div_add_mod N D
  have h2 := Nat.mod_lt N hD
  have h3 : N / D ≤ k := Nat.div_le_of_le_mul (by rw [Nat.mul_comm]; exact h)
  rcases Nat.lt_or_ge (N / D) k with h4 | h4
  · split <;> omega
  · have h5 : N / D = k := by omega
    rw [h5, Nat.mul_comm] at h1
    have : N % D = 0 := by omega
    rw [this, h5, if_neg (by omega)]
    omega

theorem rhe_zero {N D : Nat} (h : 2 * N < D) : rhe N D = 0 := by
  unfold rhe
  rw [Nat.div_eq_of_lt (by omega), Nat.mod_eq_of_lt (by omega), if_neg (by omega)]


theorem rhe_ge {N D k : Nat} (hD : 0 < D) (h : k * D ≤ N) : k ≤ rhe N D := by
  unfold rhe
  have : k ≤ N / D := (Nat.le_div_iff_mul_le hD).2 h
  omega

theorem infR_eq : infR = 2047 * 2 ^ 52 := by decide

theorem pack_eq {m q : Nat} {e : Int} (he : e = (q : Int) - 1074) (h2 : m < 2 ^ 53) (h1 : q = 0 ∨ 2 ^ 52 ≤ m) : pack m e = min (q * 2 ^ 52 + m) infR := by
  unfold pack
  rw [infR_eq]
  by_cases hm : 2 ^ 52 ≤ m
  · have h3 : m / 2 ^ 52 = 1 := Nat.div_eq_of_lt_le (by omega) (by omega)
    rw [h3, if_neg (by omega)]
    by_cases hi : 972 ≤ e
    · rw [if_pos hi]; omega
    · rw [if_neg hi]
      have h4 : (1075 + e).toNat = q + 1 := by omega
      rw [h4]
      omega
  · have h3 : m / 2 ^ 52 = 0 := Nat.div_eq_of_lt (by omega)
    rw [h3, if_pos rfl]
    omega

theorem up_one (q : Nat) : (q + 1) * 2 ^ 52 + 2 ^ 52 = q * 2 ^ 52 + 2 ^ 53 := by omega

/-- a bound on the value is one on the scaled value -/
theorem le_of_key {n M N D K : Nat} (hD : 0 < D) (key : n * D = N * M) (h : K * D ≤ N) : K * M ≤ n := by
  have h1 := Nat.mul_le_mul_right M h
  rw [← key] at h1
  have h2 : K * D * M = K * M * D := Nat.mul_right_comm ..
  rw [h2] at h1
  exact Nat.le_of_mul_le_mul_right h1 hD
theorem lt_of_key {n M N D K : Nat} (hM : 0 < M) (key : n * D = N * M) (h : N < K * D) : n < K * M := by
  have h1 := Nat.mul_lt_mul_of_pos_right h hM
  rw [← key] at h1
  have h2 : K * D * M = K * M * D := Nat.mul_right_comm ..
  rw [h2] at h1
  exact Nat.lt_of_mul_lt_mul_right h1

theorem pow_split (a b c : Nat) (h : a + b = c) : 2 ^ a * 2 ^ b = 2 ^ c := by rw [← Nat.pow_add, h]

theorem pf_round {d b : Nat} {lp : Int} {hi lo nP mP : Nat} (R : RowOk lp hi lo nP mP) (hb : b ≤ 64) (hb0 : 1 ≤ b) (hd1 : 2 ^ (b - 1) ≤ d) (hd2 : d < 2 ^ b) (hlp1 : -1200 ≤ lp) (hlp2 : lp ≤ 1200) :
    IsR (d * nP) mP (pfm d b lp hi lo) := by
  obtain ⟨nP0, mP0, hi64, lo64, lohi, c1, c2, g1, g2, near⟩ := R
  -- the exponents as whole numbers without a sign
  obtain ⟨a, ha⟩ : ∃ a, a = (lp - 127).toNat := ⟨_, rfl⟩
  obtain ⟨c, hc⟩ : ∃ c, c = (127 - lp).toNat := ⟨_, rfl⟩
  rw [← ha, ← hc] at c1 c2 g1 g2 near
  have hac : (c : Int) - a = 127 - lp := by omega
  obtain ⟨A, hA⟩ : ∃ A, A = nP * 2 ^ c := ⟨_, rfl⟩
  obtain ⟨B, hB⟩ : ∃ B, B = mP * 2 ^ a := ⟨_, rfl⟩
  rw [← hA, ← hB] at c1 c2 g1 g2 near
  have hB0 : 0 < B := by rw [hB]; exact Nat.mul_pos mP0 (Nat.two_pow_pos _)
  have hA0 : 0 < A := by rw [hA]; exact Nat.mul_pos nP0 (Nat.two_pow_pos _)
  unfold pfm
  simp only
  obtain ⟨e, he⟩ : ∃ e : Int, e = min 1074 (53 - (b : Int) - lp) := ⟨_, rfl⟩
  rw [← he]
  have he1 : e ≤ 1074 := by omega
  have he2 : e ≤ 53 - (b : Int) - lp := by omega
  obtain ⟨q, hq⟩ : ∃ q : Nat, (q : Int) = 1074 - e := ⟨(1074 - e).toNat, by omega⟩
  -- d times 2 to the (64 - b)
  obtain ⟨x, hx⟩ : ∃ x, x = d * 2 ^ (64 - b) := ⟨_, rfl⟩
  have hx1 : 2 ^ 63 ≤ x := by
    have := Nat.mul_le_mul_right (2 ^ (64 - b)) hd1
    rw [pow_split (b - 1) (64 - b) 63 (by omega)] at this
    omega
  have hx2 : x < 2 ^ 64 := by
    have := Nat.mul_lt_mul_of_pos_right hd2 (Nat.two_pow_pos (64 - b))
    rw [pow_split b (64 - b) 64 (by omega)] at this
    omega
  rw [← hx]
  by_cases hs : 64 ≤ 61 - (b : Int) - e - lp
  · rw [if_pos hs]
    have hq0 : q = 0 := by omega
    have hsm : 2 * (d * nP * S74) < mP * 2 ^ 0 := by
      have e1 : A ≤ 2 ^ 128 * B := by omega
      have e2 : d * A < 2 ^ b * (2 ^ 128 * B) := Nat.mul_lt_mul_of_lt_of_le hd2 e1 (by omega)
      have e3 : 2 ^ b * 2 ^ 128 * 2 ^ a * 2 ^ (N74 + 1) ≤ 2 ^ c := by
        rw [← Nat.pow_add, ← Nat.pow_add, ← Nat.pow_add]
        refine Nat.pow_le_pow_right (by omega) ?_
        have := N74_eq
        omega
      have e4 : d * A * 2 ^ (N74 + 1) < 2 ^ b * (2 ^ 128 * B) * 2 ^ (N74 + 1) := Nat.mul_lt_mul_of_pos_right e2 (Nat.two_pow_pos _)
      have e5 : 2 ^ b * (2 ^ 128 * B) * 2 ^ (N74 + 1) = mP * (2 ^ b * 2 ^ 128 * 2 ^ a * 2 ^ (N74 + 1)) := by
        rw [hB]; simp only [Nat.mul_assoc, Nat.mul_left_comm]
      have e6 : mP * (2 ^ b * 2 ^ 128 * 2 ^ a * 2 ^ (N74 + 1)) ≤ mP * 2 ^ c := Nat.mul_le_mul_left _ e3
      have e7 : d * A * 2 ^ (N74 + 1) = 2 * (d * nP * S74) * 2 ^ c := by
        rw [hA, S74, Nat.pow_succ]
        simp only [Nat.mul_assoc, Nat.mul_comm, Nat.mul_left_comm]
      have e8 : 2 * (d * nP * S74) * 2 ^ c < mP * 2 ^ c := by omega
      have := Nat.lt_of_mul_lt_mul_right e8
      simpa using this
    refine ⟨0, .inl rfl, by omega, ?_⟩
    rw [rhe_zero hsm, Nat.zero_mul, Nat.zero_add, Nat.zero_min]
  · rw [if_neg hs]
    obtain ⟨s, hs1⟩ : ∃ s : Nat, (s : Int) = 61 - (b : Int) - e - lp := ⟨(61 - (b : Int) - e - lp).toNat, by omega⟩
    rw [← hs1, Int.toNat_natCast]
    have hs8 : 8 ≤ s := by omega
    obtain ⟨u, hu⟩ : ∃ u, u = us x hi lo s := ⟨_, rfl⟩
    rw [← hu]
    have huS : u = SF (x * A) (B * 2 ^ (128 + s)) := by
      rw [hu]
      exact us_SF hx2 lo64 lohi hs8 hB0 c1 c2 fun k => near x k hx1 hx2
    obtain ⟨D, hD⟩ : ∃ D, D = B * 2 ^ (128 + s) := ⟨_, rfl⟩
    rw [← hD] at huS
    have hD0 : 0 < D := by rw [hD]; exact Nat.mul_pos hB0 (Nat.two_pow_pos _)
    -- the value against the scaled one
    have key : d * nP * S74 * (D * 4) = x * A * (mP * 2 ^ q) := by
      rw [hx, hA, hD, hB, S74]
      have e1 : 2 ^ N74 * (2 ^ a * 2 ^ (128 + s)) * 4 = 2 ^ (64 - b) * 2 ^ c * 2 ^ q := by
        rw [show (4 : Nat) = 2 ^ 2 from rfl, ← Nat.pow_add, ← Nat.pow_add, ← Nat.pow_add, ← Nat.pow_add, ← Nat.pow_add]
        congr 1
        have := N74_eq
        omega
      calc d * nP * 2 ^ N74 * (mP * 2 ^ a * 2 ^ (128 + s) * 4) = d * nP * mP * (2 ^ N74 * (2 ^ a * 2 ^ (128 + s)) * 4) := by simp only [Nat.mul_assoc, Nat.mul_left_comm]
        _ = d * nP * mP * (2 ^ (64 - b) * 2 ^ c * 2 ^ q) := by rw [e1]
        _ = d * 2 ^ (64 - b) * (nP * 2 ^ c) * (mP * 2 ^ q) := by simp only [Nat.mul_assoc, Nat.mul_left_comm]
    have hM0 : 0 < mP * 2 ^ q := Nat.mul_pos mP0 (Nat.two_pow_pos _)
    have hD4 : 0 < D * 4 := by omega
    have hrhe : rhe (d * nP * S74) (mP * 2 ^ q) = rnd4 u := by
      rw [huS, rnd4_SF _ _ hD0]
      exact rhe_congr hM0 hD4 key
    -- the bounds of the scaled value
    have hlo : 2 ^ 190 * B ≤ x * A := by
      calc 2 ^ 190 * B = 2 ^ 63 * (2 ^ 127 * B) := by rw [show (2 : Nat) ^ 190 = 2 ^ 63 * 2 ^ 127 by decide, Nat.mul_assoc]
        _ ≤ x * A := Nat.mul_le_mul hx1 g1
    have hup : 1025 * (x * A) < 1024 * (2 ^ 192 * B) := by
      have h1 : x * (1025 * A) < 2 ^ 64 * (1024 * 2 ^ 128 * B) := Nat.mul_lt_mul_of_lt_of_le hx2 g2 (by omega)
      have h2 : x * (1025 * A) = 1025 * (x * A) := Nat.mul_left_comm ..
      have h3 : 2 ^ 64 * (1024 * 2 ^ 128 * B) = 1024 * (2 ^ 192 * B) := by
        rw [show (2 : Nat) ^ 192 = 2 ^ 64 * 2 ^ 128 by decide]
        simp only [Nat.mul_assoc, Nat.mul_left_comm]
      omega
    have hupD : 1025 * (x * A) < 1024 * (2 ^ 56 * D) := by
      have h1 : 2 ^ 192 * B ≤ 2 ^ 56 * D := by
        rw [hD]
        calc 2 ^ 192 * B = B * (2 ^ 56 * 2 ^ (128 + 8)) := by rw [Nat.mul_comm, show (2 : Nat) ^ 192 = 2 ^ 56 * 2 ^ (128 + 8) by decide]
          _ ≤ B * (2 ^ 56 * 2 ^ (128 + s)) := Nat.mul_le_mul_left _ (Nat.mul_le_mul_left _ (Nat.pow_le_pow_right (by omega) (by omega)))
          _ = 2 ^ 56 * (B * 2 ^ (128 + s)) := Nat.mul_left_comm ..
      omega
    have hloD : q = 0 ∨ 2 ^ 54 * D ≤ x * A := by
      rcases Nat.eq_zero_or_pos q with h | h
      · exact .inl h
      · right
        have hs8' : s = 8 := by omega
        rw [hD, hs8']
        calc 2 ^ 54 * (B * 2 ^ (128 + 8)) = 2 ^ 190 * B := by rw [Nat.mul_comm B, ← Nat.mul_assoc, show (2 : Nat) ^ 190 = 2 ^ 54 * 2 ^ (128 + 8) by decide]
          _ ≤ x * A := hlo
    have hloM : q = 0 ∨ 2 ^ 52 * (mP * 2 ^ q) ≤ d * nP * S74 := hloD.imp id fun h => le_of_key hD4 key (by omega)
    have hND := Nat.div_add_mod (x * A) D
    have hNm := Nat.mod_lt (x * A) hD0
    by_cases hbig : 2 ^ 55 - 2 ≤ u
    · rw [if_pos hbig]
      have hhalf : (u / 2 ||| u % 2) = SF (x * A) (D * 2) := by rw [huS]; exact SF_half _ _ hD0
      by_cases hN : 2 ^ 55 * D ≤ x * A
      · -- one place up
        rw [hhalf, rnd4_SF _ _ (by omega)]
        have key2 : d * nP * S74 * (D * 2 * 4) = x * A * (mP * 2 ^ (q + 1)) := by
          rw [show D * 2 * 4 = D * 4 * 2 by omega, ← Nat.mul_assoc, key, Nat.pow_succ]
          simp only [Nat.mul_assoc]
        have hM1 : 0 < mP * 2 ^ (q + 1) := Nat.mul_pos mP0 (Nat.two_pow_pos _)
        have hr2 : rhe (d * nP * S74) (mP * 2 ^ (q + 1)) = rhe (x * A) (D * 2 * 4) := rhe_congr hM1 (by omega) key2
        have m1 : 2 ^ 52 ≤ rhe (x * A) (D * 2 * 4) := rhe_ge (by omega) (by omega)
        have m2 : rhe (x * A) (D * 2 * 4) ≤ 2 ^ 53 - 1 := rhe_le (by omega) (by omega)
        refine ⟨q + 1, .inr (le_of_key (by omega) key2 (by omega)), lt_of_key hM1 key2 (by omega), ?_⟩
        rw [hr2]
        exact pack_eq (by omega) (by omega) (.inr m1)
      · -- it rounds up to the next place's least
        have hq1 : x * A / D ≤ 2 ^ 55 - 1 := by
          have : x * A / D < 2 ^ 55 := Nat.div_lt_of_lt_mul (by have := Nat.mul_comm D (2 ^ 55); omega)
          omega
        have hu2 : u ≤ 2 ^ 55 - 1 := by
          rw [huS, SF_eq]
          split <;> omega
        have h3 : u = 2 ^ 55 - 2 ∨ u = 2 ^ 55 - 1 := by omega
        have h4 : rnd4 u = 2 ^ 53 := by rcases h3 with h | h <;> rw [h] <;> decide
        have h5 : rnd4 (u / 2 ||| u % 2) = 2 ^ 52 := by rcases h3 with h | h <;> rw [h] <;> decide
        refine ⟨q, hloM, lt_of_key hM0 key (by omega), ?_⟩
        have h6 := up_one q
        rw [hrhe, h4, h5, pack_eq (q := q + 1) (by omega) (by decide) (.inr (Nat.le_refl _)), h6]
    · rw [if_neg hbig]
      have hu1 := SF_lo (x * A) D
      rw [← huS] at hu1
      have hN : x * A < (2 ^ 55 - 2) * D := by
        have h1 : x * A / D + 1 ≤ 2 ^ 55 - 2 := by omega
        have h2 := Nat.mul_le_mul_right D h1
        rw [Nat.add_mul, Nat.mul_comm (x * A / D)] at h2
        omega
      have hm2 : rnd4 u < 2 ^ 53 := by unfold rnd4; omega
      refine ⟨q, hloM, lt_of_key hM0 key (by omega), ?_⟩
      rw [hrhe]
      refine pack_eq (by omega) hm2 (hloD.imp id fun h => ?_)
      rw [← hrhe]
      exact rhe_ge hM0 (le_of_key hD4 key (by omega))
end Go.Proofs.YtblphppdfiipfaaDoor.Rnd
namespace Go.Proofs.YtblphppdfiipfaaDoor.Rnd

/-- the sum of two products of opposite make -/
theorem far_sum {W x1 x2 x d1 d2 a c : Int} (hx1 : 0 < x1) (hxa : x = a * x1 + c * x2) (hx0 : 0 ≤ x) (hu : x < 18446744073709551616) (hx2 : 18446744073709551616 ≤ x2) (hd1 : 0 ≤ d1) (hd2 : d2 ≤ 0)
    (hbig : W ≤ d1 - d2 ∨ W * x1 ≤ d1 * (x2 - 18446744073709551616)) (hc : c ≠ 0) : W ≤ a * d1 + c * d2 ∨ W ≤ -(a * d1 + c * d2) := by
  rcases Int.lt_or_gt_of_ne hc with hc | hc
  · left
    have e0 : a * x1 = x + -c * x2 := by rw [hxa]; grind
    have e1 : 1 * x2 ≤ -c * x2 := Int.mul_le_mul_of_nonneg_right (by omega) (by omega)
    have ha : 1 ≤ a := by
      refine Int.le_of_not_gt fun h => ?_
      have : a * x1 ≤ 0 := Int.mul_nonpos_of_nonpos_of_nonneg (by omega) (by omega)
      omega
    have e3 : 1 * -d2 ≤ -c * -d2 := Int.mul_le_mul_of_nonneg_right (by omega) (by omega)
    rw [Int.neg_mul_neg] at e3
    rcases hbig with h | h
    · have e2 : 1 * d1 ≤ a * d1 := Int.mul_le_mul_of_nonneg_right ha hd1
      omega
    · have e4 : d1 * (x2 - 18446744073709551616) ≤ d1 * (a * x1) := Int.mul_le_mul_of_nonneg_left (by omega) hd1
      have e5 : d1 * (a * x1) = a * d1 * x1 := by grind
      have e6 : W ≤ a * d1 := Int.le_of_mul_le_mul_right (by omega) hx1
      omega
  · right
    have e0 : -a * x1 = c * x2 - x := by rw [hxa]; grind
    have e1 : 1 * x2 ≤ c * x2 := Int.mul_le_mul_of_nonneg_right (by omega) (by omega)
    have ha : 1 ≤ -a := by
      refine Int.le_of_not_gt fun h => ?_
      have : -a * x1 ≤ 0 := Int.mul_nonpos_of_nonpos_of_nonneg (by omega) (by omega)
      omega
    have e3 : 1 * -d2 ≤ c * -d2 := Int.mul_le_mul_of_nonneg_right (by omega) (by omega)
    rw [Int.mul_neg c] at e3
    rcases hbig with h | h
    · have e2 : 1 * d1 ≤ -a * d1 := Int.mul_le_mul_of_nonneg_right ha hd1
      rw [Int.neg_mul] at e2
      omega
    · have e4 : d1 * (x2 - 18446744073709551616) ≤ d1 * (-a * x1) := Int.mul_le_mul_of_nonneg_left (by omega) hd1
      have e5 : d1 * (-a * x1) = -(a * d1) * x1 := by grind
      have e6 : W ≤ -(a * d1) := Int.le_of_mul_le_mul_right (by omega) hx1
      omega

theorem one_far {W x1 d1 a : Int} (hx1 : 0 < x1) (ha : 9223372036854775808 ≤ a * x1) (hd1 : 0 ≤ d1) (h : W * x1 ≤ d1 * 9223372036854775808) : W ≤ a * d1 := by
  have e1 : d1 * 9223372036854775808 ≤ d1 * (a * x1) := Int.mul_le_mul_of_nonneg_left ha hd1
  have e2 : d1 * (a * x1) = a * d1 * x1 := by grind
  exact Int.le_of_mul_le_mul_right (by omega) hx1

/-- two next convergents bound how near a whole number a multiple comes -/
theorem near_int {A B W x1 n1 x2 n2 x k : Int} (hx1 : 0 < x1) (hx2 : 18446744073709551616 ≤ x2)
    (hdet : x1 * n2 - x2 * n1 = 1 ∨ x1 * n2 - x2 * n1 = -1)
    (hsum : (0 ≤ x1 * A - n1 * B ∧ x2 * A - n2 * B ≤ 0 ∧ (W ≤ (x1 * A - n1 * B) - (x2 * A - n2 * B) ∨ W * x1 ≤ (x1 * A - n1 * B) * (x2 - 18446744073709551616))) ∨
      (x1 * A - n1 * B ≤ 0 ∧ 0 ≤ x2 * A - n2 * B ∧ (W ≤ (x2 * A - n2 * B) - (x1 * A - n1 * B) ∨ W * x1 ≤ -(x1 * A - n1 * B) * (x2 - 18446744073709551616))))
    (hone : x1 * A - n1 * B = 0 ∨ (0 ≤ x1 * A - n1 * B ∧ W * x1 ≤ (x1 * A - n1 * B) * 9223372036854775808) ∨ (x1 * A - n1 * B ≤ 0 ∧ W * x1 ≤ -(x1 * A - n1 * B) * 9223372036854775808) ∨ (9223372036854775808 ≤ x1 ∧ n1 % 2 = 1))
    (hl : 9223372036854775808 ≤ x) (hu : x < 18446744073709551616) (hne : x * A - k * B ≠ 0) (h1 : x * A - k * B < W) (h2 : -(x * A - k * B) < W) : k % 2 = 1 := by
  obtain ⟨a, c, hxa, hka⟩ : ∃ a c : Int, x = a * x1 + c * x2 ∧ k = a * n1 + c * n2 := by
    rcases hdet with h | h
    · refine ⟨x * n2 - k * x2, x1 * k - x * n1, ?_, ?_⟩
      · have : (x * n2 - k * x2) * x1 + (x1 * k - x * n1) * x2 = x * (x1 * n2 - x2 * n1) := by grind
        rw [this, h, Int.mul_one]
      · have : (x * n2 - k * x2) * n1 + (x1 * k - x * n1) * n2 = k * (x1 * n2 - x2 * n1) := by grind
        rw [this, h, Int.mul_one]
    · refine ⟨-(x * n2 - k * x2), -(x1 * k - x * n1), ?_, ?_⟩
      · have : -(x * n2 - k * x2) * x1 + -(x1 * k - x * n1) * x2 = -(x * (x1 * n2 - x2 * n1)) := by grind
        rw [this, h]; omega
      · have : -(x * n2 - k * x2) * n1 + -(x1 * k - x * n1) * n2 = -(k * (x1 * n2 - x2 * n1)) := by grind
        rw [this, h]; omega
  have hd : x * A - k * B = a * (x1 * A - n1 * B) + c * (x2 * A - n2 * B) := by rw [hxa, hka]; grind
  generalize x1 * A - n1 * B = d1 at *
  generalize x2 * A - n2 * B = d2 at *
  generalize x * A - k * B = d at *
  by_cases hc : c = 0
  · subst hc
    simp only [Int.zero_mul, Int.add_zero] at hxa hka hd
    rcases hone with h | ⟨h0, h⟩ | ⟨h0, h⟩ | ⟨h, h'⟩
    · rw [h, Int.mul_zero] at hd; exact absurd hd hne
    · have := one_far (a := a) hx1 (by omega) h0 h
      omega
    · have := one_far (a := a) (d1 := -d1) hx1 (by omega) (by omega) h
      rw [Int.mul_neg] at this
      omega
    · have ha : 0 < a := by
        refine Int.lt_of_not_ge fun h => ?_
        have e1 : a * x1 ≤ 0 := Int.mul_nonpos_of_nonpos_of_nonneg h (by omega)
        omega
      have ha1 : a = 1 := by
        refine Int.le_antisymm (Int.le_of_not_gt fun h2 => ?_) (by omega)
        have := Int.mul_le_mul_of_nonneg_right (show (2 : Int) ≤ a by omega) (Int.le_of_lt hx1)
        omega
      rw [hka, ha1, Int.one_mul]
      exact h'
  · rcases hsum with ⟨s1, s2, s3⟩ | ⟨s1, s2, s3⟩
    · have := far_sum hx1 hxa (by omega) hu hx2 s1 s2 s3 hc
      omega
    · have := far_sum (W := W) (d1 := -d1) (d2 := -d2) hx1 hxa (by omega) hu hx2 (by omega) (by omega) (s3.imp (fun h => by omega) id) hc
      have e1 : a * -d1 = -(a * d1) := Int.mul_neg ..
      have e2 : c * -d2 = -(c * d2) := Int.mul_neg ..
      omega
end Go.Proofs.YtblphppdfiipfaaDoor.Rnd
namespace Go.Proofs.YtblphppdfiipfaaDoor.Rnd
open Ieee

theorem cut_even (n drop : Nat) : Toward.even.cut false n drop = rhe n (2 ^ drop) := by
  unfold Toward.cut
  simp only [Nat.shiftLeft_eq, Nat.one_mul]
  have hn : n < 2 ^ (n.log2 + 1) := Nat.lt_log2_self
  by_cases h : drop ≤ n.log2 + 2
  · rw [Nat.min_eq_left h]
    unfold rhe
    congr 1
    generalize 2 ^ drop = g
    generalize n % g = r
    generalize n / g = q
    by_cases h1 : g < 2 * r
    · simp [h1]
    · by_cases h2 : g = 2 * r
      · by_cases h3 : q % 2 = 1 <;> simp [h2, h3]
      · simp [h1, h2]
  · rw [Nat.min_eq_right (by omega)]
    have e1 : 2 ^ (n.log2 + 2) = 2 * 2 ^ (n.log2 + 1) := by rw [Nat.pow_succ, Nat.mul_comm]
    have e2 : 2 ^ (n.log2 + 2) ≤ 2 ^ drop := Nat.pow_le_pow_right (by omega) (by omega)
    rw [rhe_zero (by omega), Nat.div_eq_of_lt (by omega), Nat.mod_eq_of_lt (by omega)]
    have h1 : ¬ 2 ^ (n.log2 + 2) < 2 * n := by omega
    simp [h1]

theorem nearest_double (mag : Nat) (h : mag ≠ 0) (place : Int) : double.nearest false mag place =
    min ((max (place + mag.log2 - 52) (-1074) + 1074).toNat * 2 ^ 52 + rhe (mag * 2 ^ (place - max (place + mag.log2 - 52) (-1074)).toNat) (2 ^ (max (place + mag.log2 - 52) (-1074) - place).toNat)) infR := by
  unfold Format.nearest
  rw [if_neg h]
  have e1 : double.leastPlace = -1074 := by decide
  have e2 : double.binade = 2 ^ 52 := by decide
  have e3 : double.infRung = infR := by decide
  have e4 : (double.fractionBits : Int) = 52 := rfl
  simp only [e1, e2, e3, e4, cut_even, Nat.shiftLeft_eq, Format.word, Int.sub_neg, Bool.false_eq_true, if_false]

theorem nearest_IsR {mag : Nat} (h : mag ≠ 0) (place : Int) : IsR (mag * 2 ^ place.toNat) (2 ^ (-place).toNat) (double.nearest false mag place) := by
  rw [nearest_double mag h place]
  have h1 : 2 ^ mag.log2 ≤ mag := Nat.log2_self_le h
  have h2 : mag < 2 ^ (mag.log2 + 1) := Nat.lt_log2_self
  generalize mag.log2 = l at *
  obtain ⟨t, ht⟩ : ∃ t : Int, t = max (place + l - 52) (-1074) := ⟨_, rfl⟩
  rw [← ht]
  obtain ⟨q, hq⟩ : ∃ q : Nat, (q : Int) = t + 1074 := ⟨(t + 1074).toNat, by omega⟩
  rw [show (t + 1074).toNat = q by omega]
  have h74 := N74_eq
  obtain ⟨a, ha⟩ : ∃ a, a = place.toNat := ⟨_, rfl⟩
  obtain ⟨b, hb⟩ : ∃ b, b = (-place).toNat := ⟨_, rfl⟩
  obtain ⟨u, hu⟩ : ∃ u, u = (place - t).toNat := ⟨_, rfl⟩
  obtain ⟨v, hv⟩ : ∃ v, v = (t - place).toNat := ⟨_, rfl⟩
  rw [← ha, ← hb, ← hu, ← hv]
  have hex : a + N74 + v = u + (b + q) := by omega
  have key : mag * 2 ^ a * S74 * 2 ^ v = mag * 2 ^ u * (2 ^ b * 2 ^ q) := by
    rw [S74, Nat.mul_assoc, Nat.mul_assoc, Nat.mul_assoc, ← Nat.pow_add, ← Nat.pow_add, ← Nat.pow_add, ← Nat.pow_add]
    congr 2
    omega
  have hM : 0 < 2 ^ b * 2 ^ q := Nat.mul_pos (Nat.two_pow_pos _) (Nat.two_pow_pos _)
  refine ⟨q, ?_, lt_of_key hM key ?_, ?_⟩
  · rcases Nat.eq_zero_or_pos q with h0 | h0
    · exact .inl h0
    · refine .inr (le_of_key (Nat.two_pow_pos v) key ?_)
      -- t = place + l - 52
      have : 52 + v = l + u := by omega
      calc 2 ^ 52 * 2 ^ v = 2 ^ l * 2 ^ u := by rw [← Nat.pow_add, ← Nat.pow_add, this]
        _ ≤ mag * 2 ^ u := Nat.mul_le_mul_right _ h1
  · have : l + 1 + u ≤ 53 + v := by omega
    calc mag * 2 ^ u < 2 ^ (l + 1) * 2 ^ u := Nat.mul_lt_mul_of_pos_right h2 (Nat.two_pow_pos _)
      _ = 2 ^ (l + 1 + u) := by rw [← Nat.pow_add]
      _ ≤ 2 ^ (53 + v) := Nat.pow_le_pow_right (by omega) this
      _ = 2 ^ 53 * 2 ^ v := by rw [Nat.pow_add]
  · rw [rhe_congr hM (Nat.two_pow_pos v) key]

/-- the datum of a word below infinity -/
theorem read_low {r : Nat} (h : r < 2 ^ 52) : double.read r = .number false r (-1074) := by
  unfold Format.read
  have e1 : double.leastPlace = -1074 := by decide
  have e2 : double.binade = 2 ^ 52 := by decide
  have e3 : double.signWeight = 2 ^ 63 := by decide
  rw [e1, e2, e3]
  have h1 : r / 2 ^ 63 = 0 := Nat.div_eq_of_lt (by omega)
  have h2 : r % 2 ^ 63 = r := Nat.mod_eq_of_lt (by omega)
  simp only [h1, h2]
  rw [if_pos h]
  rfl
theorem read_norm {m q : Nat} (h1 : 2 ^ 52 ≤ m) (h2 : m < 2 ^ 53) (hq : q ≤ 2045) : double.read (q * 2 ^ 52 + m) = .number false m (-1074 + q) := by
  unfold Format.read
  have e1 : double.leastPlace = -1074 := by decide
  have e2 : double.binade = 2 ^ 52 := by decide
  have e3 : double.signWeight = 2 ^ 63 := by decide
  have e4 : double.infRung = 2047 * 2 ^ 52 := by decide
  rw [e1, e2, e3, e4]
  have g1 : (q * 2 ^ 52 + m) / 2 ^ 63 = 0 := Nat.div_eq_of_lt (by omega)
  have g2 : (q * 2 ^ 52 + m) % 2 ^ 63 = q * 2 ^ 52 + m := Nat.mod_eq_of_lt (by omega)
  have g3 : (q * 2 ^ 52 + m) / 2 ^ 52 = q + 1 := Nat.div_eq_of_lt_le (by omega) (by omega)
  have g4 : (q * 2 ^ 52 + m) % 2 ^ 52 = m - 2 ^ 52 := by omega
  simp only [g1, g2, g3, g4]
  rw [if_neg (by omega), if_pos (by omega)]
  have g5 : 2 ^ 52 + (m - 2 ^ 52) = m := by omega
  have g6 : q + 1 - 1 = q := by omega
  rw [g5, g6]
  rfl

/-- a whole number below 2 to the 53 is a double -/
theorem nearest_small {d : Nat} (h0 : d ≠ 0) (h : d < 2 ^ 53) : ∃ k : Nat, d * 2 ^ k < 2 ^ 53 ∧ double.read (double.nearest false d 0) = .number false (d * 2 ^ k) (-k) := by
  have h1 : 2 ^ d.log2 ≤ d := Nat.log2_self_le h0
  have h2 : d < 2 ^ (d.log2 + 1) := Nat.lt_log2_self
  have h3 : d.log2 < 53 := (Nat.log2_lt h0).2 h
  rw [nearest_double d h0 0]
  generalize d.log2 = l at *
  have m2 : d * 2 ^ (52 - l) < 2 ^ 53 := by
    calc d * 2 ^ (52 - l) < 2 ^ (l + 1) * 2 ^ (52 - l) := Nat.mul_lt_mul_of_pos_right h2 (Nat.two_pow_pos _)
      _ = 2 ^ 53 := by rw [← Nat.pow_add]; congr 1; omega
  refine ⟨52 - l, m2, ?_⟩
  obtain ⟨t, ht⟩ : ∃ t : Int, t = max (0 + (l : Int) - 52) (-1074) := ⟨_, rfl⟩
  rw [← ht]
  have e1 : (0 - t).toNat = 52 - l := by omega
  have e2 : (t - 0).toNat = 0 := by omega
  rw [e1, e2]
  have e3 : rhe (d * 2 ^ (52 - l)) (2 ^ 0) = d * 2 ^ (52 - l) := by
    unfold rhe; simp [Nat.mod_one]
  rw [e3]
  have m1 : 2 ^ 52 ≤ d * 2 ^ (52 - l) := by
    calc 2 ^ 52 = 2 ^ l * 2 ^ (52 - l) := by rw [← Nat.pow_add]; congr 1; omega
      _ ≤ _ := Nat.mul_le_mul_right _ h1
  have e4 : (t + 1074).toNat = 1022 + l := by omega
  rw [e4, infR_eq, Nat.min_eq_left (by omega), read_norm m1 m2 (by omega)]
  congr 1
  omega
end Go.Proofs.YtblphppdfiipfaaDoor.Rnd
namespace Go.Proofs.YtblphppdfiipfaaDoor.Rnd
open Ieee

theorem IsR.congr {n m n' m' b : Nat} (hm : 0 < m) (hm' : 0 < m') (h : n * m' = n' * m) (a : IsR n m b) : IsR n' m' b := by
  obtain ⟨q, h1, h2, h3⟩ := a
  have key : n * S74 * (m' * 2 ^ q) = n' * S74 * (m * 2 ^ q) := by
    calc n * S74 * (m' * 2 ^ q) = (n * m') * (S74 * 2 ^ q) := by simp only [Nat.mul_assoc, Nat.mul_left_comm]
      _ = (n' * m) * (S74 * 2 ^ q) := by rw [h]
      _ = n' * S74 * (m * 2 ^ q) := by simp only [Nat.mul_assoc, Nat.mul_left_comm]
  have p1 : 0 < m * 2 ^ q := Nat.mul_pos hm (Nat.two_pow_pos _)
  have p2 : 0 < m' * 2 ^ q := Nat.mul_pos hm' (Nat.two_pow_pos _)
  -- n' S74 * (m 2^q) = n S74 * (m' 2^q)
  refine ⟨q, h1.imp id fun h => le_of_key p1 key.symm h, lt_of_key p2 key.symm h2, ?_⟩
  rw [h3, rhe_congr p1 p2 key]

/-- a product's last bit set where something is left over: two bits more than are kept -/
theorem rhe_sticky (N n v : Nat) (hn : 0 < n) (hv : 2 ≤ v) : rhe (2 * (N / n) + (if N % n = 0 then 0 else 1)) (2 ^ v) = rhe (2 * N) (n * 2 ^ v) := by
  obtain ⟨c, rfl⟩ : ∃ c, v = c + 2 := ⟨v - 2, by omega⟩
  have e1 : 2 ^ (c + 2) = 2 ^ c * 2 * 2 := by rw [Nat.pow_succ, Nat.pow_succ]
  rw [e1]
  generalize hw : 2 ^ c = w
  have hw0 : 0 < w := by rw [← hw]; exact Nat.two_pow_pos _
  have e2 : n * (w * 2 * 2) = 2 * (n * (w * 2)) := by simp only [Nat.mul_comm, Nat.mul_left_comm]
  have h1 := Nat.div_add_mod N n
  have h2 := Nat.mod_lt N hn
  generalize hQ : N / n = Q at *
  generalize hr : N % n = r at *
  have h3 := Nat.div_add_mod Q (w * 2)
  have h4 := Nat.mod_lt Q (show 0 < w * 2 by omega)
  generalize hq : Q / (w * 2) = k at *
  generalize hr1 : Q % (w * 2) = j at *
  have d1 : (2 * Q + (if r = 0 then 0 else 1)) / (w * 2 * 2) = k := by
    have : w * 2 * k * 2 = k * (w * 2 * 2) := by simp only [Nat.mul_comm, Nat.mul_left_comm]
    refine Nat.div_eq_of_lt_le ?_ ?_
    · split <;> omega
    · rw [Nat.add_mul]; split <;> omega
  have m1 : (2 * Q + (if r = 0 then 0 else 1)) % (w * 2 * 2) = 2 * j + (if r = 0 then 0 else 1) := by
    have := Nat.div_add_mod (2 * Q + (if r = 0 then 0 else 1)) (w * 2 * 2)
    rw [d1] at this
    have e : w * 2 * 2 * k = 2 * (w * 2 * k) := by simp only [Nat.mul_comm, Nat.mul_left_comm]
    split at this <;> split <;> omega
  have e3 : n * Q = n * (w * 2) * k + n * j := by rw [← h3, Nat.mul_add, Nat.mul_assoc n (w * 2) k]
  have e4 : n * j + r < n * (w * 2) := by
    have : n * (j + 1) ≤ n * (w * 2) := Nat.mul_le_mul_left _ h4
    rw [Nat.mul_succ] at this
    omega
  have d2 : 2 * N / (2 * (n * (w * 2))) = k := by
    rw [Nat.mul_div_mul_left _ _ (by omega)]
    refine Nat.div_eq_of_lt_le (by rw [Nat.mul_comm]; omega) ?_
    rw [Nat.add_mul, Nat.mul_comm k]; omega
  have m2 : 2 * N % (2 * (n * (w * 2))) = 2 * (n * j + r) := by
    have := Nat.div_add_mod (2 * N) (2 * (n * (w * 2)))
    rw [d2] at this
    have e : 2 * (n * (w * 2)) * k = 2 * (n * (w * 2) * k) := Nat.mul_assoc ..
    omega
  unfold rhe
  rw [e2, d1, m1, d2, m2]
  -- the two tests
  have lt1 : j < w → n * j + n ≤ n * w := fun h => by
    have : n * (j + 1) ≤ n * w := Nat.mul_le_mul_left _ h
    rwa [Nat.mul_succ] at this
  have gt1 : w < j → n * w + n ≤ n * j := fun h => by
    have : n * (w + 1) ≤ n * j := Nat.mul_le_mul_left _ h
    rwa [Nat.mul_succ] at this
  have e5 : n * (w * 2) = 2 * (n * w) := by rw [← Nat.mul_assoc, Nat.mul_comm]
  rw [e5]
  rcases Nat.lt_trichotomy j w with hj | hj | hj
  · have := lt1 hj
    by_cases h0 : r = 0 <;> simp only [h0, if_true, if_false] <;> (congr 1; rw [if_neg (by omega), if_neg (by omega)])
  · subst hj
    by_cases h0 : r = 0
    · rw [if_pos h0, h0]
      simp only [Nat.add_zero]
      congr 1
      by_cases hk : k % 2 = 1
      · rw [if_pos (by omega)]; simp [hk]
      · rw [if_neg (by omega)]; simp [hk]
    · simp only [h0, if_false]
      congr 1
      rw [if_pos (by omega), if_pos (by omega)]
  · have := gt1 hj
    by_cases h0 : r = 0 <;> simp only [h0, if_true, if_false] <;> (congr 1; rw [if_pos (by omega), if_pos (by omega)])

/-- a word reads as the whole number n -/
def Reads (b n : Nat) : Prop := ∃ (m : Nat) (e : Int), double.read b = .number false m e ∧ m ≠ 0 ∧ m * 2 ^ e.toNat = n * 2 ^ (-e).toNat

theorem reads_small {d : Nat} (h0 : d ≠ 0) (h : d < 2 ^ 53) : Reads (double.nearest false d 0) d := by
  obtain ⟨k, hk, hr⟩ := nearest_small h0 h
  refine ⟨d * 2 ^ k, -k, hr, Nat.mul_ne_zero h0 (Nat.ne_of_gt (Nat.two_pow_pos _)), ?_⟩
  have e1 : (-(k : Int)).toNat = 0 := by omega
  have e2 : (-(-(k : Int))).toNat = k := by omega
  rw [e1, e2]; simp

theorem log2_lt_two {n : Nat} (h : n ≠ 0) : 2 ^ n.log2 ≤ n ∧ n < 2 * 2 ^ n.log2 := by
  have h1 := Nat.log2_self_le h
  have h2 : n < 2 ^ (n.log2 + 1) := Nat.lt_log2_self
  rw [Nat.pow_succ] at h2
  omega

theorem two_sides (i j : Int) : 2 ^ (i + j).toNat * (2 ^ (-i).toNat * 2 ^ (-j).toNat) = 2 ^ i.toNat * 2 ^ j.toNat * 2 ^ (-(i + j)).toNat := by
  simp only [← Nat.pow_add]
  congr 1
  omega

theorem mul_IsR {x y a b : Nat} (hx : Reads x a) (hy : Reads y b) : ∃ r, double.mul x y = some r ∧ IsR (a * b) 1 r := by
  obtain ⟨m, i, hm, hm0, h1⟩ := hx
  obtain ⟨n, j, hn, hn0, h2⟩ := hy
  refine ⟨double.nearest false (m * n) (i + j), ?_, ?_⟩
  · simp [Format.mul, hm, hn, Datum.product, Format.write]
  · refine IsR.congr (Nat.two_pow_pos _) (by omega) ?_ (nearest_IsR (Nat.mul_ne_zero hm0 hn0) (i + j))
    -- m n 2^(i+j)+ * 1 = a b * 2^(i+j)-
    have h3 : (m * 2 ^ i.toNat) * (n * 2 ^ j.toNat) = (a * 2 ^ (-i).toNat) * (b * 2 ^ (-j).toNat) := by rw [h1, h2]
    have h4 := two_sides i j
    have hp : 0 < 2 ^ (-i).toNat * 2 ^ (-j).toNat := Nat.mul_pos (Nat.two_pow_pos _) (Nat.two_pow_pos _)
    refine Nat.eq_of_mul_eq_mul_right hp ?_
    calc m * n * 2 ^ (i + j).toNat * 1 * (2 ^ (-i).toNat * 2 ^ (-j).toNat) = m * n * (2 ^ (i + j).toNat * (2 ^ (-i).toNat * 2 ^ (-j).toNat)) := by rw [Nat.mul_one, Nat.mul_assoc]
      _ = m * n * (2 ^ i.toNat * 2 ^ j.toNat * 2 ^ (-(i + j)).toNat) := by rw [h4]
      _ = (m * 2 ^ i.toNat) * (n * 2 ^ j.toNat) * 2 ^ (-(i + j)).toNat := by simp only [Nat.mul_assoc, Nat.mul_left_comm]
      _ = a * b * 2 ^ (-(i + j)).toNat * (2 ^ (-i).toNat * 2 ^ (-j).toNat) := by rw [h3]; simp only [Nat.mul_assoc, Nat.mul_comm, Nat.mul_left_comm]

/-- the rounding of a quotient that bears a sticky bit -/
theorem quo_IsR {m n : Nat} (hm0 : m ≠ 0) (hn0 : n ≠ 0) (hm53 : m < 2 ^ 53) (t : Int) (g : Nat) (hg : g = 54 + n.log2 - m.log2) :
    IsR (m * 2 ^ t.toNat) (n * 2 ^ (-t).toNat)
      (double.nearest false (2 * (m * 2 ^ g / n) + (if m * 2 ^ g % n = 0 then 0 else 1)) (t - g - 1)) := by
  obtain ⟨a1, a2⟩ := log2_lt_two hm0
  obtain ⟨b1, b2⟩ := log2_lt_two hn0
  have hlm : m.log2 < 53 := (Nat.log2_lt hm0).2 hm53
  have hn : 0 < n := Nat.pos_of_ne_zero hn0
  have hexp : m.log2 + g = 54 + n.log2 := by omega
  generalize m.log2 = lm at *
  generalize n.log2 = ln at *
  have lo : 2 ^ 53 * n ≤ m * 2 ^ g := by
    calc 2 ^ 53 * n ≤ 2 ^ 53 * (2 * 2 ^ ln) := Nat.mul_le_mul_left _ (Nat.le_of_lt b2)
      _ = 2 ^ (54 + ln) := by rw [Nat.pow_add, ← Nat.mul_assoc]
      _ = 2 ^ lm * 2 ^ g := by rw [← Nat.pow_add, hexp]
      _ ≤ m * 2 ^ g := Nat.mul_le_mul_right _ a1
  have hi : m * 2 ^ g < 2 ^ 55 * n := by
    calc m * 2 ^ g < 2 * 2 ^ lm * 2 ^ g := Nat.mul_lt_mul_of_pos_right a2 (Nat.two_pow_pos _)
      _ = 2 * 2 ^ (54 + ln) := by rw [Nat.mul_assoc, ← Nat.pow_add, hexp]
      _ = 2 ^ 55 * 2 ^ ln := by rw [Nat.pow_add, ← Nat.mul_assoc]
      _ ≤ 2 ^ 55 * n := Nat.mul_le_mul_left _ b1
  obtain ⟨N, hN⟩ : ∃ N, N = m * 2 ^ g := ⟨_, rfl⟩
  rw [← hN] at lo hi ⊢
  have hQ1 : 2 ^ 53 ≤ N / n := (Nat.le_div_iff_mul_le hn).2 lo
  have hQ2 : N / n < 2 ^ 55 := Nat.div_lt_of_lt_mul (by have := Nat.mul_comm n (2 ^ 55); omega)
  have hd := Nat.div_add_mod N n
  have hr := Nat.mod_lt N hn
  obtain ⟨M, hM⟩ : ∃ M, M = 2 * (N / n) + (if N % n = 0 then 0 else 1) := ⟨_, rfl⟩
  have hM1 : 2 * (N / n) ≤ M := by rw [hM]; omega
  have hM2 : M ≤ 2 * (N / n) + 1 := by rw [hM]; split <;> omega
  have hM0 : M ≠ 0 := by omega
  have hsticky := fun v hv => rhe_sticky N n v hn hv
  rw [← hM] at hsticky ⊢
  rw [nearest_double M hM0]
  obtain ⟨L1, L2⟩ := log2_lt_two hM0
  have hL54 : 54 ≤ M.log2 := (Nat.le_log2 hM0).2 (by omega)
  generalize M.log2 = L at *
  obtain ⟨P, hP⟩ : ∃ P : Int, P = t - g - 1 := ⟨_, rfl⟩
  rw [← hP]
  obtain ⟨T, hT⟩ : ∃ T : Int, T = max (P + L - 52) (-1074) := ⟨_, rfl⟩
  rw [← hT]
  obtain ⟨q, hq⟩ : ∃ q : Nat, (q : Int) = T + 1074 := ⟨(T + 1074).toNat, by omega⟩
  obtain ⟨v, hv⟩ : ∃ v : Nat, (v : Int) = T - P := ⟨(T - P).toNat, by omega⟩
  rw [show (T + 1074).toNat = q by omega, show (P - T).toNat = 0 by omega, show (T - P).toNat = v by omega]
  rw [Nat.pow_zero, Nat.mul_one, hsticky v (by omega)]
  have h74 := N74_eq
  obtain ⟨tp, htp⟩ : ∃ tp, tp = t.toNat := ⟨_, rfl⟩
  obtain ⟨tm, htm⟩ : ∃ tm, tm = (-t).toNat := ⟨_, rfl⟩
  rw [← htp, ← htm]
  have key : m * 2 ^ tp * S74 * (n * 2 ^ v) = 2 * N * (n * 2 ^ tm * 2 ^ q) := by
    have e1 : 2 ^ tp * 2 ^ N74 * 2 ^ v = 2 * 2 ^ g * (2 ^ tm * 2 ^ q) := by
      rw [show 2 * 2 ^ g = 2 ^ (g + 1) by rw [Nat.pow_succ, Nat.mul_comm], ← Nat.pow_add, ← Nat.pow_add, ← Nat.pow_add, ← Nat.pow_add]
      congr 1
      omega
    rw [hN, S74]
    calc m * 2 ^ tp * 2 ^ N74 * (n * 2 ^ v) = m * n * (2 ^ tp * 2 ^ N74 * 2 ^ v) := by simp only [Nat.mul_assoc, Nat.mul_left_comm]
      _ = m * n * (2 * 2 ^ g * (2 ^ tm * 2 ^ q)) := by rw [e1]
      _ = 2 * (m * 2 ^ g) * (n * 2 ^ tm * 2 ^ q) := by simp only [Nat.mul_assoc, Nat.mul_left_comm]
  have hv0 : 0 < n * 2 ^ v := Nat.mul_pos hn (Nat.two_pow_pos _)
  have hq0 : 0 < n * 2 ^ tm * 2 ^ q := Nat.mul_pos (Nat.mul_pos hn (Nat.two_pow_pos _)) (Nat.two_pow_pos _)
  refine ⟨q, ?_, lt_of_key hq0 key ?_, ?_⟩
  · rcases Nat.eq_zero_or_pos q with h0 | h0
    · exact .inl h0
    · refine .inr (le_of_key hv0 key ?_)
      have e1 : 52 + v = L := by omega
      have e2 : 2 ^ 52 * (n * 2 ^ v) = 2 ^ L * n := by rw [← e1, Nat.pow_add]; simp only [Nat.mul_assoc, Nat.mul_comm]
      obtain ⟨c, hc⟩ : ∃ c, L = c + 1 := ⟨L - 1, by omega⟩
      rw [hc, Nat.pow_succ] at L1 e2
      have e3 : 2 ^ c ≤ N / n := by omega
      have e4 : n * 2 ^ c ≤ n * (N / n) := Nat.mul_le_mul_left _ e3
      have e5 : 2 ^ c * 2 * n = 2 * (n * 2 ^ c) := by simp only [Nat.mul_comm, Nat.mul_left_comm]
      have e6 : 2 ^ 52 * (n * 2 ^ v) = 2 * (n * 2 ^ c) := e2.trans e5
      rw [e6]
      omega
  · have e1 : 2 ^ (L + 1) ≤ 2 ^ (53 + v) := Nat.pow_le_pow_right (by omega) (by omega)
    have e2 : 2 ^ 53 * (n * 2 ^ v) = 2 ^ (53 + v) * n := by rw [Nat.pow_add]; simp only [Nat.mul_assoc, Nat.mul_comm]
    have e3 : 2 ^ (L + 1) * n ≤ 2 ^ (53 + v) * n := Nat.mul_le_mul_right _ e1
    rw [Nat.pow_succ] at e3
    have e4 : N / n + 1 ≤ 2 ^ L := by omega
    have e5 : n * (N / n + 1) ≤ n * 2 ^ L := Nat.mul_le_mul_left _ e4
    rw [Nat.mul_succ] at e5
    have e6 : 2 ^ L * 2 * n = 2 * (n * 2 ^ L) := by simp only [Nat.mul_comm, Nat.mul_left_comm]
    omega
  · rw [rhe_congr hq0 hv0 key]

theorem div_IsR {x y a b : Nat} (hx : Reads x a) (hx53 : ∀ m e, double.read x = .number false m e → m < 2 ^ 53) (hy : Reads y b) (hb : 0 < b) : ∃ r, double.div x y = some r ∧ IsR a b r := by
  obtain ⟨m, i, hm, hm0, h1⟩ := hx
  obtain ⟨n, j, hn, hn0, h2⟩ := hy
  refine ⟨double.nearest false (2 * (m * 2 ^ (54 + n.log2 - m.log2) / n) + (if m * 2 ^ (54 + n.log2 - m.log2) % n = 0 then 0 else 1)) (i - j - (54 + n.log2 - m.log2 : Nat) - 1), ?_, ?_⟩
  · simp only [Format.div, hm, hn, Datum.quotient, hn0, if_false, Option.map_some, Format.write, Nat.shiftLeft_eq, Bool.xor_false]
    have e1 : double.fractionBits + 2 = 54 := rfl
    rw [e1]
    congr 3
    split <;> simp [*]
  · refine IsR.congr (Nat.mul_pos (Nat.pos_of_ne_zero hn0) (Nat.two_pow_pos _)) hb ?_ (quo_IsR hm0 hn0 (hx53 _ _ hm) (i - j) _ rfl)
    -- m 2^(i-j)+ b = a n 2^(i-j)-
    have hp : 0 < 2 ^ (-i).toNat * 2 ^ j.toNat := Nat.mul_pos (Nat.two_pow_pos _) (Nat.two_pow_pos _)
    have h4 : 2 ^ (i - j).toNat * (2 ^ (-i).toNat * 2 ^ j.toNat) = 2 ^ i.toNat * 2 ^ (-j).toNat * 2 ^ (-(i - j)).toNat := by
      simp only [← Nat.pow_add]
      congr 1
      omega
    refine Nat.eq_of_mul_eq_mul_right hp ?_
    calc m * 2 ^ (i - j).toNat * b * (2 ^ (-i).toNat * 2 ^ j.toNat) = m * b * (2 ^ (i - j).toNat * (2 ^ (-i).toNat * 2 ^ j.toNat)) := by simp only [Nat.mul_assoc, Nat.mul_left_comm]
      _ = m * b * (2 ^ i.toNat * 2 ^ (-j).toNat * 2 ^ (-(i - j)).toNat) := by rw [h4]
      _ = (m * 2 ^ i.toNat) * (b * 2 ^ (-j).toNat) * 2 ^ (-(i - j)).toNat := by simp only [Nat.mul_assoc, Nat.mul_left_comm]
      _ = (a * 2 ^ (-i).toNat) * (n * 2 ^ j.toNat) * 2 ^ (-(i - j)).toNat := by rw [h1, h2]
      _ = a * (n * 2 ^ (-(i - j)).toNat) * (2 ^ (-i).toNat * 2 ^ j.toNat) := by simp only [Nat.mul_assoc, Nat.mul_comm, Nat.mul_left_comm]
end Go.Proofs.YtblphppdfiipfaaDoor.Rnd
namespace Go.Proofs.YtblphppdfiipfaaDoor.Rnd

/-- two next convergents of a / b, the first's denominator below 2 to the 64 -/
def cf : Nat → Nat → Nat → Nat → Nat → Nat → Nat → Nat × Nat × Nat × Nat
  | 0, _, _, _, _, h1, k1 => (k1, h1, k1, h1)
  | f + 1, a, b, h0, k0, h1, k1 =>
    if b = 0 then (k1, h1, k0 + (2 ^ 64 / k1 + 1) * k1, h0 + (2 ^ 64 / k1 + 1) * h1)
    else
      if 2 ^ 64 ≤ a / b * k1 + k0 then (k1, h1, a / b * k1 + k0, a / b * h1 + h0) else cf f b (a % b) h1 k1 (a / b * h1 + h0) (a / b * k1 + k0)

def nearB (A B W x1 n1 x2 n2 : Int) : Bool :=
  decide (0 < x1 ∧ 18446744073709551616 ≤ x2 ∧ (x1 * n2 - x2 * n1 = 1 ∨ x1 * n2 - x2 * n1 = -1) ∧
    ((0 ≤ x1 * A - n1 * B ∧ x2 * A - n2 * B ≤ 0 ∧ (W ≤ (x1 * A - n1 * B) - (x2 * A - n2 * B) ∨ W * x1 ≤ (x1 * A - n1 * B) * (x2 - 18446744073709551616))) ∨
      (x1 * A - n1 * B ≤ 0 ∧ 0 ≤ x2 * A - n2 * B ∧ (W ≤ (x2 * A - n2 * B) - (x1 * A - n1 * B) ∨ W * x1 ≤ -(x1 * A - n1 * B) * (x2 - 18446744073709551616)))) ∧
    (x1 * A - n1 * B = 0 ∨ (0 ≤ x1 * A - n1 * B ∧ W * x1 ≤ (x1 * A - n1 * B) * 9223372036854775808) ∨ (x1 * A - n1 * B ≤ 0 ∧ W * x1 ≤ -(x1 * A - n1 * B) * 9223372036854775808) ∨ (9223372036854775808 ≤ x1 ∧ n1 % 2 = 1)))

theorem nearB_use {A B W : Nat} {x1 n1 x2 n2 : Int} (h : nearB A B W x1 n1 x2 n2 = true) (x k : Nat) (hl : 2 ^ 63 ≤ x) (hu : x < 2 ^ 64) (hne : x * A ≠ k * B) (h1 : k * B < x * A + W) (h2 : x * A < k * B + W) : k % 2 = 1 := by
  obtain ⟨g1, g2, g3, g4, g5⟩ := of_decide_eq_true h
  have e1 : ((x * A : Nat) : Int) = (x : Int) * A := Int.natCast_mul ..
  have e2 : ((k * B : Nat) : Int) = (k : Int) * B := Int.natCast_mul ..
  have := near_int (x := x) (k := k) g1 g2 g3 g4 g5 (by omega) (by omega) (by omega) (by omega) (by omega)
  omega

def lpOf (p : Int) : Int := p * 108853 / 32768
def nPof (p : Int) : Nat := if 0 ≤ p then 10 ^ p.toNat else 1
def mPof (p : Int) : Nat := if 0 ≤ p then 1 else 10 ^ (-p).toNat

def rowB (lp : Int) (hi lo nP mP : Nat) : Bool :=
  let A := nP * 2 ^ (127 - lp).toNat
  let B := mP * 2 ^ (lp - 127).toNat
  let c := cf 400 A (B * 2 ^ 136) 0 1 1 0
  decide (0 < nP ∧ 0 < mP ∧ hi < 2 ^ 64 ∧ lo < 2 ^ 64 ∧ lo ≤ hi * 2 ^ 64 ∧ A ≤ (hi * 2 ^ 64 - lo) * B ∧ (hi * 2 ^ 64 - lo) * B < A + B ∧ 2 ^ 127 * B ≤ A ∧ 1025 * A ≤ 1024 * 2 ^ 128 * B) &&
    nearB A (B * 2 ^ 136 : Nat) (2 ^ 65 * B : Nat) c.1 c.2.1 c.2.2.1 c.2.2.2

theorem rowB_ok {lp : Int} {hi lo nP mP : Nat} (h : rowB lp hi lo nP mP = true) : RowOk lp hi lo nP mP := by
  unfold rowB at h
  simp only [Bool.and_eq_true, decide_eq_true_eq] at h
  obtain ⟨⟨a1, a2, a3, a4, a5, a6, a7, a8, a9⟩, hn⟩ := h
  exact ⟨a1, a2, a3, a4, a5, a6, a7, a8, a9, fun x k hl hu hne h1 h2 => nearB_use hn x k hl hu hne h1 h2⟩

def tabB (n : Nat) : Nat → List (Nat × Nat) → Bool
  | _, [] => true
  | i, r :: l => (if n ≤ i then rowB (lpOf ((i : Int) - 348)) r.1 r.2 (nPof ((i : Int) - 348)) (mPof ((i : Int) - 348)) else true) && tabB n (i + 1) l
theorem tabB_use {n : Nat} : ∀ {i : Nat} {l : List (Nat × Nat)}, tabB n i l = true → ∀ j r, l[j]? = some r → n ≤ i + j → rowB (lpOf (((i + j : Nat) : Int) - 348)) r.1 r.2 (nPof (((i + j : Nat) : Int) - 348)) (mPof (((i + j : Nat) : Int) - 348)) = true
  | _, [], _, j, r, h, _ => by simp at h
  | i, x :: l, h, j, r, hj, hn => by
    simp only [tabB, Bool.and_eq_true] at h
    cases j with
    | zero =>
      simp only [List.getElem?_cons_zero, Option.some.injEq] at hj
      subst hj
      have := h.1
      simp only [Nat.add_zero] at hn ⊢
      rw [if_pos hn] at this
      exact this
    | succ j =>
      have := tabB_use h.2 j r (by simpa using hj) (by omega)
      rwa [show i + 1 + j = i + (j + 1) by omega] at this
set_option maxRecDepth 100000 in
theorem tab_ok : tabB 3 0 (Go.Pinned.pow10Rows.take 659) = true := by decide +kernel

/-- every row of the table that is reached is good -/
theorem row_ok (p : Int) (h1 : -345 ≤ p) (h2 : p ≤ 310) (r : Nat × Nat) (hr : Go.Pinned.pow10Rows[(p + 348).toNat]? = some r) : RowOk (lpOf p) r.1 r.2 (nPof p) (mPof p) := by
  have h := tabB_use tab_ok (p + 348).toNat r (by rw [List.getElem?_take, if_pos (by omega)]; exact hr) (by omega)
  rw [show (((0 + (p + 348).toNat : Nat) : Int) - 348) = p by omega] at h
  exact rowB_ok h
end Go.Proofs.YtblphppdfiipfaaDoor.Rnd
namespace Go.Proofs.YtblphppdfiipfaaDoor.Rnd
open Ieee

/-- the powers of ten that are doubles -/
def p10 : List Nat := [4607182418800017408, 4621819117588971520, 4636737291354636288, 4652007308841189376, 4666723172467343360, 4681608360884174848, 4696837146684686336, 4711630319722168320, 4726483295884279808, 4741671816366391296, 4756540486875873280, 4771362005757984768, 4786511204640096256, 4801453603149578240, 4816244402031689728, 4831355200913801216, 4846369599423283200, 4861130398305394688, 4876203697187506176, 4891288408196988160, 4906019910204099648, 4921056587992461136, 4936209963552724370]
def readsB (b n : Nat) : Bool :=
  match double.read b with
  | .number false m e => m != 0 && m * 2 ^ e.toNat == n * 2 ^ (-e).toNat
  | _ => false
theorem readsB_use {b n : Nat} (h : readsB b n = true) : Reads b n := by
  unfold readsB at h
  split at h
  · rename_i m e hr
    simp only [Bool.and_eq_true, bne_iff_ne, ne_eq, beq_iff_eq] at h
    exact ⟨m, e, hr, h.1, h.2⟩
  · cases h
theorem p10_all : (List.range 23).all (fun i => readsB (p10.getD i 0) (10 ^ i)) = true := by decide +kernel
theorem p10_reads {i : Nat} (h : i < 23) : Reads (p10.getD i 0) (10 ^ i) :=
  readsB_use (List.all_eq_true.1 p10_all i (List.mem_range.2 h))

/-- ten to the fifteenth -/
def f15 : Nat := 4831355200913801216
theorem f15_read : double.read f15 = .number false 8000000000000000 (-3) := by decide +kernel

theorem gt_of_big {v r : Nat} (h : IsR v 1 r) (h1 : 2 ^ 53 ≤ v) (h2 : v < 2 ^ 110) : double.order r f15 = some .gt := by
  obtain ⟨q, hq1, hq2, hq3⟩ := h
  have h74 := N74_eq
  have hS : 0 < S74 := S74_pos
  -- q ≥ 1075
  have q1 : 1075 ≤ q := by
    refine Nat.le_of_not_lt fun hlt => ?_
    have e1 : 2 ^ 53 * (1 * 2 ^ q) ≤ 2 ^ 53 * S74 := by
      rw [Nat.one_mul, S74]
      exact Nat.mul_le_mul_left _ (Nat.pow_le_pow_right (by omega) (by omega))
    have e2 : 2 ^ 53 * S74 ≤ v * S74 := Nat.mul_le_mul_right _ h1
    omega
  have q2 : q ≤ 1200 := by
    refine Nat.le_of_not_lt fun hlt => ?_
    rcases hq1 with h0 | h0
    · omega
    · have e1 : v * S74 < 2 ^ 110 * S74 := Nat.mul_lt_mul_of_pos_right h2 hS
      have e2 : 2 ^ 110 * S74 ≤ 2 ^ 52 * (1 * 2 ^ q) := by
        rw [Nat.one_mul, S74, ← Nat.pow_add, ← Nat.pow_add]
        exact Nat.pow_le_pow_right (by omega) (by omega)
      omega
  have hp : 0 < 1 * 2 ^ q := by rw [Nat.one_mul]; exact Nat.two_pow_pos _
  have m1 : 2 ^ 52 ≤ rhe (v * S74) (1 * 2 ^ q) := rhe_ge hp (hq1.resolve_left (by omega))
  have m2 : rhe (v * S74) (1 * 2 ^ q) ≤ 2 ^ 53 := rhe_le hp (Nat.le_of_lt hq2)
  generalize rhe (v * S74) (1 * 2 ^ q) = m at *
  rw [infR_eq, Nat.min_eq_left (by omega)] at hq3
  have key : ∀ (M : Nat) (q' : Nat), 2 ^ 52 ≤ M → M < 2 ^ 53 → 1075 ≤ q' → q' ≤ 2045 → double.order (q' * 2 ^ 52 + M) f15 = some .gt := by
    intro M q' a1 a2 a3 a4
    unfold Format.order
    rw [read_norm a1 a2 a4, f15_read]
    simp only [Datum.order, signed, Bool.false_eq_true, if_false]
    have e1 : min (-1074 + (q' : Int)) (-3) = -3 := by omega
    rw [e1]
    have e2 : (-1074 + (q' : Int) - -3).toNat = q' - 1071 := by omega
    have e3 : ((-3 : Int) - -3).toNat = 0 := rfl
    rw [e2, e3, Nat.shiftLeft_eq, Nat.shiftLeft_eq]
    have e4 : 2 ^ 4 ≤ 2 ^ (q' - 1071) := Nat.pow_le_pow_right (by omega) (by omega)
    have e5 : 2 ^ 52 * 2 ^ 4 ≤ M * 2 ^ (q' - 1071) := Nat.mul_le_mul a1 e4
    have e6 : ((8000000000000000 * 2 ^ 0 : Nat) : Int) < ((M * 2 ^ (q' - 1071) : Nat) : Int) := by omega
    rw [Int.compare_eq_gt.2 e6]
  rcases Nat.lt_or_ge m (2 ^ 53) with h | h
  · rw [hq3]; exact key m q m1 h q1 (by omega)
  · have : q * 2 ^ 52 + m = (q + 1) * 2 ^ 52 + 2 ^ 52 := by omega
    rw [hq3, this]
    exact key _ (q + 1) (Nat.le_refl _) (by decide) (by omega) (by omega)

/-- atof64exact, at no sign -/
def exF (d : Nat) (p : Int) : Option Nat :=
  if 2 ^ 52 ≤ d then none
  else if p = 0 then some (double.nearest false d 0)
  else if 0 < p ∧ p ≤ 37 then
    if 22 < p then
      (double.mul (double.nearest false d 0) (p10.getD (p - 22).toNat 0)).bind fun f => if double.order f f15 = some .gt then none else double.mul f (p10.getD 22 0)
    else if double.order (double.nearest false d 0) f15 = some .gt then none else double.mul (double.nearest false d 0) (p10.getD p.toNat 0)
  else if p < 0 ∧ -22 ≤ p then double.div (double.nearest false d 0) (p10.getD (-p).toNat 0)
  else none

theorem nearest_IsR0 {d : Nat} (h : d ≠ 0) : IsR d 1 (double.nearest false d 0) := by
  have := nearest_IsR h 0
  simpa using this

theorem exF_IsR {d : Nat} {p : Int} {r : Nat} (h0 : d ≠ 0) (h : exF d p = some r) : IsR (d * nPof p) (mPof p) r := by
  unfold exF at h
  by_cases hd : 2 ^ 52 ≤ d
  · rw [if_pos hd] at h; cases h
  rw [if_neg hd] at h
  have hr := reads_small h0 (show d < 2 ^ 53 by omega)
  by_cases hp0 : p = 0
  · rw [if_pos hp0] at h
    cases h
    subst hp0
    have := nearest_IsR0 h0
    simpa [nPof, mPof] using this
  rw [if_neg hp0] at h
  by_cases hp1 : 0 < p ∧ p ≤ 37
  · rw [if_pos hp1] at h
    have e1 : nPof p = 10 ^ p.toNat := if_pos (by omega)
    have e2 : mPof p = 1 := if_pos (by omega)
    rw [e1, e2]
    by_cases hp2 : 22 < p
    · rw [if_pos hp2] at h
      obtain ⟨f, hf, hfr⟩ := mul_IsR hr (p10_reads (show (p - 22).toNat < 23 by omega))
      rw [hf] at h
      simp only [Option.bind_some] at h
      by_cases hg : double.order f f15 = some .gt
      · rw [if_pos hg] at h; cases h
      · rw [if_neg hg] at h
        have hlt : d * 10 ^ (p - 22).toNat < 2 ^ 53 := by
          refine Nat.lt_of_not_ge fun hge => hg (gt_of_big hfr hge ?_)
          have a1 : 10 ^ (p - 22).toNat ≤ 10 ^ 15 := Nat.pow_le_pow_right (by omega) (by omega)
          have a2 : d * 10 ^ (p - 22).toNat ≤ 2 ^ 52 * 10 ^ 15 := Nat.mul_le_mul (by omega) a1
          omega
        have hne : d * 10 ^ (p - 22).toNat ≠ 0 := Nat.mul_ne_zero h0 (Nat.ne_of_gt (Nat.pow_pos (by omega)))
        have hfe : f = double.nearest false (d * 10 ^ (p - 22).toNat) 0 := IsR.unique (by omega) (by omega) rfl hfr (nearest_IsR0 hne)
        have hr2 := reads_small hne hlt
        rw [← hfe] at hr2
        obtain ⟨g, hg1, hg2⟩ := mul_IsR hr2 (p10_reads (show 22 < 23 by omega))
        rw [hg1] at h
        cases h
        have : d * 10 ^ (p - 22).toNat * 10 ^ 22 = d * 10 ^ p.toNat := by
          rw [Nat.mul_assoc, ← Nat.pow_add]; congr 2; omega
        rwa [this] at hg2
    · rw [if_neg hp2] at h
      by_cases hg : double.order (double.nearest false d 0) f15 = some .gt
      · rw [if_pos hg] at h; cases h
      · rw [if_neg hg] at h
        obtain ⟨g, hg1, hg2⟩ := mul_IsR hr (p10_reads (show p.toNat < 23 by omega))
        rw [hg1] at h
        cases h
        exact hg2
  rw [if_neg hp1] at h
  by_cases hp2 : p < 0 ∧ -22 ≤ p
  · rw [if_pos hp2] at h
    have e1 : nPof p = 1 := if_neg (by omega)
    have e2 : mPof p = 10 ^ (-p).toNat := if_neg (by omega)
    rw [e1, e2, Nat.mul_one]
    obtain ⟨k, hk, hkr⟩ := nearest_small h0 (show d < 2 ^ 53 by omega)
    have h53 : ∀ m e, double.read (double.nearest false d 0) = .number false m e → m < 2 ^ 53 := by
      intro m e hme
      rw [hkr] at hme
      injection hme with _ e1 _
      rw [← e1]
      exact hk
    obtain ⟨g, hg1, hg2⟩ := div_IsR hr h53 (p10_reads (show (-p).toNat < 23 by omega)) (Nat.pow_pos (by omega))
    rw [hg1] at h
    cases h
    exact hg2
  · rw [if_neg hp2] at h; cases h
end Go.Proofs.YtblphppdfiipfaaDoor.Rnd
namespace Go.Proofs.YtblphppdfiipfaaDoor.Rnd

def rowAt (p : Int) : Nat × Nat := Go.Pinned.pow10Rows.getD (p + 348).toNat (0, 0)
/-- how many bits -/
def blen (d : Nat) : Nat := if d = 0 then 0 else d.log2 + 1
/-- parseFloat64 at no sign -/
def pfF (d : Nat) (p : Int) : Nat := pfm d (blen d) (lpOf p) (rowAt p).1 (rowAt p).2
/-- atof64's fast ways, at a mantissa that is all digits -/
def fastF (d : Nat) (p : Int) : Nat :=
  if d = 0 then 0 else if 310 < p then infR else if p < -345 then 0 else match exF d p with | some r => r | none => pfF d p

theorem rows_len : Go.Pinned.pow10Rows.length = 696 := by decide +kernel

theorem pfF_IsR {d : Nat} {p : Int} (h0 : d ≠ 0) (hd : d < 2 ^ 64) (h1 : -345 ≤ p) (h2 : p ≤ 310) : IsR (d * nPof p) (mPof p) (pfF d p) := by
  have hl := rows_len
  have hr : Go.Pinned.pow10Rows[(p + 348).toNat]? = some (rowAt p) := by
    unfold rowAt
    rw [List.getD_eq_getElem?_getD, List.getElem?_eq_getElem (by omega)]
    rfl
  have hb : blen d = d.log2 + 1 := if_neg h0
  have hl64 : d.log2 < 64 := (Nat.log2_lt h0).2 hd
  unfold pfF
  refine pf_round (row_ok p h1 h2 _ hr) (by omega) (by omega) ?_ ?_ ?_ ?_
  · rw [hb]; exact Nat.log2_self_le h0
  · rw [hb]; exact Nat.lt_log2_self
  · unfold lpOf; omega
  · unfold lpOf; omega

/-- 971, behind a name -/
def N71 : Nat := 971
theorem N71_eq : N71 = 971 := rfl

theorem IsR_big {v b : Nat} (hv : 2 ^ N71 * 2 ^ 53 ≤ v) (h : IsR v 1 b) : b = infR := by
  obtain ⟨q, h1, h2, h3⟩ := h
  have h74 := N74_eq
  have h71 := N71_eq
  have hq : 2046 ≤ q := by
    refine Nat.le_of_not_lt fun hlt => ?_
    have e1 : 2 ^ 53 * (1 * 2 ^ q) ≤ 2 ^ 53 * (2 ^ N71 * S74) := by
      rw [Nat.one_mul, S74, ← Nat.pow_add 2 N71]
      exact Nat.mul_le_mul_left _ (Nat.pow_le_pow_right (by omega) (by omega))
    have e2 : 2 ^ N71 * 2 ^ 53 * S74 ≤ v * S74 := Nat.mul_le_mul_right _ hv
    have e3 : 2 ^ N71 * 2 ^ 53 * S74 = 2 ^ 53 * (2 ^ N71 * S74) := by rw [Nat.mul_comm (2 ^ N71), Nat.mul_assoc]
    rw [e3] at e2
    exact absurd (Nat.lt_of_lt_of_le h2 e1) (Nat.not_lt.2 e2)
  have hp : 0 < 1 * 2 ^ q := by rw [Nat.one_mul]; exact Nat.two_pow_pos _
  have m1 : 2 ^ 52 ≤ rhe (v * S74) (1 * 2 ^ q) := rhe_ge hp (h1.resolve_left (by omega))
  generalize rhe (v * S74) (1 * 2 ^ q) = m at *
  rw [h3, infR_eq]
  refine Nat.min_eq_right ?_
  clear h1 h2 hp h3 hv
  omega

/-- 346, behind a name -/
def T46 : Nat := 346
theorem T46_eq : T46 = 346 := rfl
theorem big10 : 2 ^ N71 * 2 ^ 53 ≤ 10 ^ 311 := by decide +kernel
theorem small10 : 2 * (10 ^ 19 * S74) ≤ 10 ^ T46 := by decide +kernel

theorem fastF_IsR {d : Nat} {p : Int} (h0 : d ≠ 0) (hd : d < 10 ^ 19) : IsR (d * nPof p) (mPof p) (fastF d p) := by
  unfold fastF
  rw [if_neg h0]
  by_cases h1 : 310 < p
  · rw [if_pos h1]
    have e1 : nPof p = 10 ^ p.toNat := if_pos (by omega)
    have e2 : mPof p = 1 := if_pos (by omega)
    rw [e1, e2]
    have hne : d * 10 ^ p.toNat ≠ 0 := Nat.mul_ne_zero h0 (Nat.ne_of_gt (Nat.pow_pos (by omega)))
    have hb := nearest_IsR0 hne
    have hv : 2 ^ N71 * 2 ^ 53 ≤ d * 10 ^ p.toNat := by
      refine Nat.le_trans big10 ?_
      calc 10 ^ 311 ≤ 10 ^ p.toNat := Nat.pow_le_pow_right (by omega) (by omega)
        _ = 1 * 10 ^ p.toNat := (Nat.one_mul _).symm
        _ ≤ d * 10 ^ p.toNat := Nat.mul_le_mul_right _ (Nat.pos_of_ne_zero h0)
    have := IsR_big hv hb
    rwa [this] at hb
  rw [if_neg h1]
  by_cases h2 : p < -345
  · rw [if_pos h2]
    have e1 : nPof p = 1 := if_neg (by omega)
    have e2 : mPof p = 10 ^ (-p).toNat := if_neg (by omega)
    rw [e1, e2, Nat.mul_one]
    have hs : 2 * (d * S74) < 10 ^ (-p).toNat * 2 ^ 0 := by
      have a1 : d * S74 < 10 ^ 19 * S74 := Nat.mul_lt_mul_of_pos_right hd S74_pos
      have a2 : 2 * (10 ^ 19 * S74) ≤ 10 ^ T46 := small10
      have h46 := T46_eq
      have a3 : 10 ^ T46 ≤ 10 ^ (-p).toNat := Nat.pow_le_pow_right (by omega) (by omega)
      rw [Nat.pow_zero, Nat.mul_one]
      omega
    refine ⟨0, .inl rfl, by omega, ?_⟩
    rw [rhe_zero hs, Nat.zero_mul, Nat.zero_add, Nat.zero_min]
  rw [if_neg h2]
  cases he : exF d p with
  | some r => exact exF_IsR h0 he
  | none => exact pfF_IsR h0 (by omega) (by omega) (by omega)

theorem nP_pos (p : Int) : 0 < nPof p := by unfold nPof; split <;> first | exact Nat.pow_pos (by omega) | omega
theorem mP_pos (p : Int) : 0 < mPof p := by unfold mPof; split <;> first | exact Nat.pow_pos (by omega) | omega

/-- ten more in the mantissa, one less in the exponent -/
theorem ten_up (p : Int) (k : Nat) : 10 ^ k * nPof (p - k) * mPof p = nPof p * mPof (p - k) := by
  unfold nPof mPof
  by_cases h1 : 0 ≤ p
  · by_cases h2 : 0 ≤ p - k
    · rw [if_pos h1, if_pos h2, if_pos h1, if_pos h2, ← Nat.pow_add, Nat.mul_one, Nat.mul_one]
      congr 1; omega
    · rw [if_pos h1, if_neg h2, if_pos h1, if_neg h2, ← Nat.pow_add, Nat.mul_one, Nat.mul_one]
      congr 1; omega
  · rw [if_neg h1, if_neg (by omega), if_neg h1, if_neg (by omega), Nat.mul_one, Nat.one_mul, ← Nat.pow_add]
    congr 1; omega

/-- the fast ways do not see zeros moved from the mantissa into the exponent -/
theorem fastF_ten {d : Nat} {p : Int} (k : Nat) (h0 : d ≠ 0) (hd : d * 10 ^ k < 10 ^ 19) : fastF (d * 10 ^ k) (p - k) = fastF d p := by
  have hk : 1 ≤ 10 ^ k := Nat.pow_pos (by omega)
  have hd' : d < 10 ^ 19 := Nat.lt_of_le_of_lt (Nat.le_mul_of_pos_right d hk) hd
  refine IsR.unique (mP_pos _) (mP_pos _) ?_ (fastF_IsR (Nat.mul_ne_zero h0 (by omega)) hd) (fastF_IsR h0 hd')
  rw [Nat.mul_assoc d, Nat.mul_assoc d, ten_up, Nat.mul_assoc]
end Go.Proofs.YtblphppdfiipfaaDoor.Rnd
