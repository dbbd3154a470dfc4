/- What a text of digits is worth. Conditions: none. -/
import Derived.Test.YtblphppdfiipfaaDoorCDecM
import Derived.Test.YtblphppdfiipfaaDoorCFloE
import Derived.Test.YtblphppdfiipfaaDoorCDigits
namespace Go.Proofs.YtblphppdfiipfaaDoor
open Go.RowKit
open Dc
set_option maxRecDepth 100000

/-- all digits that count, as a number -/
def fst (s : ByteArray) : Nat → Nat
  | 0 => 0
  | i + 1 => if bt s i = 46 then fst s i else if bt s i = 48 ∧ (mst s i).nd = 0 then fst s i else fst s i * 10 + (bt s i - 48)
/-- the digits' value, in 800 places -/
def fV (s : ByteArray) (i : Nat) : Nat := fst s i * 10 ^ (N8 - (mst s i).nd)

theorem dgt_F {F n r : Nat} (hr : r < n) (hn : n ≤ N8) : dgt (F * 10 ^ (N8 - n)) r = F / 10 ^ (n - 1 - r) % 10 := by
  unfold dgt pre
  congr 1
  have e : T8 = 10 ^ (n - 1 - r) * (10 ^ (N8 - n) * 10 ^ (r + 1)) := by
    unfold T8; rw [← Nat.pow_add, ← Nat.pow_add]; congr 1; omega
  rw [e, Nat.mul_assoc, Nat.mul_div_mul_right _ _ (Nat.mul_pos (p10 _) (p10 _))]
theorem dgt_F0 {F n r : Nat} (hr : n ≤ r) (hn : n ≤ N8) : dgt (F * 10 ^ (N8 - n)) r = 0 := by
  unfold dgt pre
  have e : F * 10 ^ (N8 - n) * 10 ^ (r + 1) = F * 10 ^ (r - n) * 10 * T8 := by
    unfold T8
    rw [Nat.mul_assoc, ← Nat.pow_add, Nat.mul_assoc F, Nat.mul_assoc, ← Nat.pow_succ, ← Nat.pow_add]; congr 2; omega
  rw [e, Nat.mul_div_cancel _ T8_pos, Nat.mul_mod_left]
theorem mst_succ (s : ByteArray) (i : Nat) : mst s (i + 1) = (mst s i).step (bt s i) := rfl
theorem fst_succ (s : ByteArray) (i : Nat) : fst s (i + 1) = if bt s i = 46 then fst s i else if bt s i = 48 ∧ (mst s i).nd = 0 then fst s i else fst s i * 10 + (bt s i - 48) := rfl
theorem st_dot {s : ByteArray} {i : Nat} (h : bt s i = 46) : (mst s (i + 1)).nd = (mst s i).nd ∧ (mst s (i + 1)).dp = (mst s i).nd ∧ (mst s (i + 1)).dot = true ∧ (mst s (i + 1)).dig = (mst s i).dig ∧ fst s (i + 1) = fst s i := by
  rw [mst_succ, fst_succ, if_pos h]
  unfold MS.step
  rw [if_pos h]
  exact ⟨rfl, rfl, rfl, rfl, rfl⟩
theorem st_zero {s : ByteArray} {i : Nat} (h : bt s i = 48) (hn : (mst s i).nd = 0) : (mst s (i + 1)).nd = (mst s i).nd ∧ (mst s (i + 1)).dp = (mst s i).dp - 1 ∧ (mst s (i + 1)).dot = (mst s i).dot ∧ (mst s (i + 1)).dig = true ∧ fst s (i + 1) = fst s i := by
  rw [mst_succ, fst_succ, if_neg (by omega), if_pos ⟨h, hn⟩]
  unfold MS.step
  rw [if_neg (by omega), if_pos ⟨h, hn⟩]
  exact ⟨rfl, rfl, rfl, rfl, rfl⟩
theorem st_dig {s : ByteArray} {i : Nat} (h1 : bt s i ≠ 46) (h2 : ¬ (bt s i = 48 ∧ (mst s i).nd = 0)) : (mst s (i + 1)).nd = (mst s i).nd + 1 ∧ (mst s (i + 1)).dp = (mst s i).dp ∧ (mst s (i + 1)).dot = (mst s i).dot ∧ (mst s (i + 1)).dig = true ∧ fst s (i + 1) = fst s i * 10 + (bt s i - 48) := by
  rw [mst_succ, fst_succ, if_neg h1, if_neg h2]
  unfold MS.step
  rw [if_neg h1, if_neg h2]
  split <;> exact ⟨rfl, rfl, rfl, rfl, rfl⟩
theorem fst_lt (s : ByteArray) : ∀ i, (∀ j, j < i → (48 ≤ bt s j ∧ bt s j ≤ 57) ∨ bt s j = 46) → fst s i < 10 ^ (mst s i).nd
  | 0, _ => by simp [fst, mst]
  | i + 1, h => by
    have ih := fst_lt s i fun j hj => h j (by omega)
    have hc := h i (by omega)
    by_cases h1 : bt s i = 46
    · obtain ⟨a, _, _, _, b⟩ := st_dot h1
      rw [a, b]; exact ih
    · by_cases h2 : bt s i = 48 ∧ (mst s i).nd = 0
      · obtain ⟨a, _, _, _, b⟩ := st_zero h2.1 h2.2
        rw [a, b]; exact ih
      · obtain ⟨a, _, _, _, b⟩ := st_dig h1 h2
        rw [a, b, Nat.pow_succ]
        omega
/-- one digit more -/
theorem dig_more (F d n r : Nat) (hd : d < 10) (hr : r < n + 1) : (F * 10 + d) / 10 ^ (n + 1 - 1 - r) % 10 = if r = n then d else F / 10 ^ (n - 1 - r) % 10 := by
  by_cases e : r = n
  · rw [if_pos e, e, Nat.add_sub_cancel, Nat.sub_self, Nat.pow_zero, Nat.div_one]; omega
  · rw [if_neg e, show n + 1 - 1 - r = n - 1 - r + 1 by omega, Nat.pow_succ, Nat.mul_comm (10 ^ (n - 1 - r)), ← Nat.div_div_eq_div_mul, show (F * 10 + d) / 10 = F by omega]

open Dc

structure MInv (x : MS) (F : Nat) : Prop where
  k : x.k = min x.nd 19
  m : x.m = F / 10 ^ (x.nd - x.k)
  tr : x.tr = decide (F % 10 ^ (x.nd - x.k) ≠ 0)
  z : x.nd = 0 → F = 0
  lo : x.nd ≠ 0 → 10 ^ (x.nd - 1) ≤ F

theorem mv_keep {x y : MS} {F : Nat} (h : MInv x F) (h1 : y.nd = x.nd) (h2 : y.k = x.k) (h3 : y.m = x.m) (h4 : y.tr = x.tr) : MInv y F :=
  ⟨by rw [h1, h2]; exact h.k, by rw [h1, h2, h3]; exact h.m, by rw [h1, h2, h4]; exact h.tr, by rw [h1]; exact h.z, by rw [h1]; exact h.lo⟩
theorem mv_dig {x : MS} {F c : Nat} (h : MInv x F) (hc : 48 ≤ c ∧ c ≤ 57) (hz : ¬ (c = 48 ∧ x.nd = 0)) :
    MInv (if x.k < 19 then (⟨x.m * 10 + (c - 48), x.nd + 1, x.k + 1, x.dp, x.dot, true, x.tr⟩ : MS) else ⟨x.m, x.nd + 1, x.k, x.dp, x.dot, true, if c = 48 then x.tr else true⟩) (F * 10 + (c - 48)) := by
  have hk := h.k
  have hlo : 10 ^ (x.nd + 1 - 1) ≤ F * 10 + (c - 48) := by
    rw [Nat.add_sub_cancel]
    by_cases h0 : x.nd = 0
    · rw [h0, Nat.pow_zero]
      have : c ≠ 48 := fun e => hz ⟨e, h0⟩
      omega
    · have := h.lo h0
      obtain ⟨n, hn⟩ : ∃ n, x.nd = n + 1 := ⟨x.nd - 1, by omega⟩
      rw [hn, Nat.add_sub_cancel] at this
      rw [hn, Nat.pow_succ]
      omega
  by_cases h19 : x.k < 19
  · rw [if_pos h19]
    have e : x.nd - x.k = 0 := by omega
    have hm := h.m
    have ht := h.tr
    rw [e, Nat.pow_zero, Nat.div_one] at hm
    rw [e, Nat.pow_zero, Nat.mod_one] at ht
    refine ⟨by show x.k + 1 = min (x.nd + 1) 19; omega, ?_, ?_, fun h => absurd h (by simp), fun _ => hlo⟩
    · show x.m * 10 + (c - 48) = (F * 10 + (c - 48)) / 10 ^ (x.nd + 1 - (x.k + 1))
      rw [show x.nd + 1 - (x.k + 1) = 0 by omega, Nat.pow_zero, Nat.div_one, hm]
    · show x.tr = decide ((F * 10 + (c - 48)) % 10 ^ (x.nd + 1 - (x.k + 1)) ≠ 0)
      rw [show x.nd + 1 - (x.k + 1) = 0 by omega, Nat.pow_zero, Nat.mod_one, ht]
  · rw [if_neg h19]
    have e : x.nd + 1 - x.k = x.nd - x.k + 1 := by omega
    have hd : c - 48 < 10 := by omega
    have hp := p10 (x.nd - x.k)
    refine ⟨by show x.k = min (x.nd + 1) 19; omega, ?_, ?_, fun h => absurd h (by simp), fun _ => hlo⟩
    · show x.m = (F * 10 + (c - 48)) / 10 ^ (x.nd + 1 - x.k)
      rw [e, Nat.pow_succ, Nat.mul_comm (10 ^ _), ← Nat.div_div_eq_div_mul, show (F * 10 + (c - 48)) / 10 = F by omega]
      exact h.m
    · show (if c = 48 then x.tr else true) = decide ((F * 10 + (c - 48)) % 10 ^ (x.nd + 1 - x.k) ≠ 0)
      rw [e, Nat.pow_succ, Nat.mul_comm (10 ^ _), Nat.mod_mul, show (F * 10 + (c - 48)) % 10 = c - 48 by omega, show (F * 10 + (c - 48)) / 10 = F by omega]
      by_cases hc48 : c = 48
      · rw [if_pos hc48, h.tr, Bool.eq_iff_iff]
        simp only [decide_eq_true_eq]
        omega
      · rw [if_neg hc48]
        symm
        exact decide_eq_true (by omega)
theorem mv (s : ByteArray) : ∀ i, (∀ j, j < i → (48 ≤ bt s j ∧ bt s j ≤ 57) ∨ bt s j = 46) → MInv (mst s i) (fst s i)
  | 0, _ => ⟨by simp [mst], by simp [mst, fst], by simp [mst, fst], fun _ => by simp [fst], fun h => absurd rfl h⟩
  | i + 1, h => by
    have ih := mv s i fun j hj => h j (by omega)
    have hc := h i (by omega)
    rw [mst_succ, fst_succ]
    unfold MS.step
    by_cases h1 : bt s i = 46
    · rw [if_pos h1, if_pos h1]; exact mv_keep ih rfl rfl rfl rfl
    · rw [if_neg h1, if_neg h1]
      by_cases h2 : bt s i = 48 ∧ (mst s i).nd = 0
      · rw [if_pos h2, if_pos h2]; exact mv_keep ih rfl rfl rfl rfl
      · rw [if_neg h2, if_neg h2]
        exact mv_dig ih (by omega) h2

/-- the same float? -/
def feq (a b : Nat) : Bool := FloatKind.f64.format.order a b == some .eq
/-- where digits are dropped -/
def longF (m : Nat) (p : Int) (V : Nat) (D : Int) : Nat :=
  if 310 < p then Rnd.infR else if p < -345 then 0 else if feq (Rnd.pfF m p) (Rnd.pfF (m + 1) p) = true then Rnd.pfF m p else (slowB V D).1
/-- 781, behind a name -/
def N81 : Nat := 781
theorem N81_eq : N8 = 19 + N81 := rfl
/-- the float of a value: digits in 800 places, the point's place -/
def gF (V : Nat) (D : Int) : Nat :=
  if V = 0 then 0 else if V % 10 ^ N81 = 0 then Rnd.fastF (V / 10 ^ N81) (D - 19) else longF (V / 10 ^ N81) (D - 19) V D

/-- the point's place -/
def fD (s : ByteArray) (q : Nat) (ex : Int) : Int := (if (mst s q).dot = true then (mst s q).dp else ((mst s q).nd : Int)) + ex

theorem fV_div {F n : Nat} (hn : n ≤ N8) (h19 : 19 ≤ n) : F * 10 ^ (N8 - n) / 10 ^ N81 = F / 10 ^ (n - 19) ∧ (F * 10 ^ (N8 - n) % 10 ^ N81 = 0 ↔ F % 10 ^ (n - 19) = 0) := by
  have e8 := N81_eq
  have e : 10 ^ N81 = 10 ^ (n - 19) * 10 ^ (N8 - n) := by rw [← Nat.pow_add]; congr 1; omega
  rw [e, Nat.mul_div_mul_right _ _ (p10 _), Nat.mul_mod_mul_right]
  refine ⟨rfl, ?_⟩
  have := p10 (N8 - n)
  rw [Nat.mul_eq_zero]
  omega
theorem fV_small {F n : Nat} (hn : n ≤ N8) (h19 : n < 19) : F * 10 ^ (N8 - n) / 10 ^ N81 = F * 10 ^ (19 - n) ∧ F * 10 ^ (N8 - n) % 10 ^ N81 = 0 := by
  have e8 := N81_eq
  have e : 10 ^ (N8 - n) = 10 ^ (19 - n) * 10 ^ N81 := by rw [← Nat.pow_add]; congr 1; omega
  rw [e, ← Nat.mul_assoc, Nat.mul_div_cancel _ (p10 _), Nat.mul_mod_left]
  exact ⟨rfl, rfl⟩

theorem gF_short {s : ByteArray} {q : Nat} {ex : Int} (hq : q ≤ 100) (hM : MOk s q) (ht : (mst s q).tr = false) : Rnd.fastF (mst s q).m (rfE (mst s q) ex) = gF (fV s q) (fD s q ex) := by
  have h := mv s q hM.1
  have hb := mst_b s q hM.1
  have hfl := fst_lt s q hM.1
  have e8 := N8_eq
  have hnd : (mst s q).nd ≤ N8 := by have := hb.2.2.1; omega
  unfold gF fD fV rfE
  by_cases h0 : (mst s q).nd = 0
  · have hz := h.z h0
    have hm : (mst s q).m = 0 := by rw [h.m, hz, Nat.zero_div]
    rw [hz, Nat.zero_mul, if_pos rfl, hm]
    unfold Rnd.fastF
    rw [if_pos rfl]
  have hlo := h.lo h0
  have hFp : 0 < fst s q := Nat.lt_of_lt_of_le (p10 _) hlo
  have hV : fst s q * 10 ^ (N8 - (mst s q).nd) ≠ 0 := Nat.mul_ne_zero (by omega) (Nat.ne_of_gt (p10 _))
  rw [if_neg hV]
  have hk := h.k
  by_cases h19 : 19 ≤ (mst s q).nd
  · have hk19 : (mst s q).k = 19 := by omega
    obtain ⟨a, b⟩ := fV_div (F := fst s q) hnd h19
    have htr := h.tr
    rw [ht, hk19] at htr
    have hmod : fst s q % 10 ^ ((mst s q).nd - 19) = 0 := by
      have := of_decide_eq_false htr.symm
      omega
    rw [if_pos (b.2 hmod), a]
    have hm := h.m
    rw [hk19] at hm
    rw [← hm, if_neg, hk19]
    · rfl
    · intro e
      rw [e] at hm
      have := (Nat.div_eq_zero_iff).1 hm.symm
      have h2 : 10 ^ ((mst s q).nd - 19) ≤ 10 ^ ((mst s q).nd - 1) := Nat.pow_le_pow_right (by omega) (by omega)
      have := p10 ((mst s q).nd - 19)
      omega
  · obtain ⟨a, b⟩ := fV_small (F := fst s q) hnd (show (mst s q).nd < 19 by omega)
    have hkn : (mst s q).k = (mst s q).nd := by omega
    rw [if_pos b, a]
    have hm := h.m
    rw [hkn, Nat.sub_self, Nat.pow_zero, Nat.div_one] at hm
    rw [hm, if_neg (by omega), hkn]
    have hlt : fst s q * 10 ^ (19 - (mst s q).nd) < 10 ^ 19 := by
      calc fst s q * 10 ^ (19 - (mst s q).nd) < 10 ^ (mst s q).nd * 10 ^ (19 - (mst s q).nd) := Nat.mul_lt_mul_of_pos_right hfl (p10 _)
        _ = 10 ^ 19 := by rw [← Nat.pow_add]; congr 1; omega
    rw [← Rnd.fastF_ten (19 - (mst s q).nd) (by omega) hlt]
    congr 1
    omega
theorem gF_long {s : ByteArray} {q : Nat} {ex : Int} (hq : q ≤ 100) (hM : MOk s q) (ht : (mst s q).tr = true) :
    longF (mst s q).m (rfE (mst s q) ex) (fV s q) (fD s q ex) = gF (fV s q) (fD s q ex) ∧ (mst s q).m ≠ 0 ∧ Big (fV s q) ∧ rfE (mst s q) ex = fD s q ex - 19 := by
  have h := mv s q hM.1
  have hb := mst_b s q hM.1
  have hfl := fst_lt s q hM.1
  have e8 := N8_eq
  have hnd : (mst s q).nd ≤ N8 := by have := hb.2.2.1; omega
  have htr := h.tr
  rw [ht] at htr
  have hmod := of_decide_eq_true htr.symm
  have hk := h.k
  have h19 : 19 < (mst s q).nd := by
    refine Nat.lt_of_not_le fun hle => ?_
    rw [show (mst s q).nd - (mst s q).k = 0 by omega, Nat.pow_zero, Nat.mod_one] at hmod
    exact hmod rfl
  have hk19 : (mst s q).k = 19 := by omega
  rw [hk19] at hmod
  have hlo := h.lo (by omega)
  obtain ⟨a, b⟩ := fV_div (F := fst s q) hnd (show 19 ≤ (mst s q).nd by omega)
  have hm := h.m
  rw [hk19] at hm
  have hm0 : (mst s q).m ≠ 0 := by
    intro e
    rw [e] at hm
    have := (Nat.div_eq_zero_iff).1 hm.symm
    have h2 : 10 ^ ((mst s q).nd - 19) ≤ 10 ^ ((mst s q).nd - 1) := Nat.pow_le_pow_right (by omega) (by omega)
    have := p10 ((mst s q).nd - 19)
    omega
  have hrf : rfE (mst s q) ex = fD s q ex - 19 := by
    unfold rfE fD
    rw [if_neg hm0, hk19]
    rfl
  have hV : fV s q ≠ 0 := Nat.mul_ne_zero (by have := p10 ((mst s q).nd - 1); omega) (Nat.ne_of_gt (p10 _))
  have hVlt : fV s q < T8 := by
    unfold fV
    rw [T8_eq (mst s q).nd hnd]
    exact Nat.mul_lt_mul_of_pos_right hfl (p10 _)
  refine ⟨?_, hm0, ⟨?_, hVlt⟩, hrf⟩
  · unfold gF
    rw [if_neg hV]
    unfold fV at *
    rw [if_neg (fun e => hmod (b.1 e)), a, ← hm, hrf]
  · unfold fV
    rw [T8_eq (mst s q).nd hnd]
    obtain ⟨n, hn⟩ : ∃ n, (mst s q).nd = n + 1 := ⟨(mst s q).nd - 1, by omega⟩
    rw [hn, Nat.add_sub_cancel] at hlo
    rw [hn, Nat.pow_succ, Nat.mul_assoc, Nat.mul_assoc, Nat.mul_comm 10]
    exact Nat.mul_le_mul_right _ hlo
open Dc

/-- digits as a number -/
def dval (d : Nat → Nat) : Nat → Nat
  | 0 => 0
  | n + 1 => dval d n * 10 + (d n - 48)
/-- where the j-th digit stands, if the point stands at k -/
def dpos (k j : Nat) : Nat := if j < k then j else j + 1
/-- how many digits -/
def dnum (q k : Nat) : Nat := if k < q then q - 1 else q

/-- 'a' zeros, the digits 'd' ('n' of them, the first is no zero), zeros; the point at 'k' ('q': none) -/
structure Shp (t : ByteArray) (q k a n : Nat) (d : Nat → Nat) : Prop where
  kq : k ≤ q
  dot : k < q → bt t k = 46
  n1 : 1 ≤ n
  fit : a + n ≤ dnum q k
  dig : ∀ j, j < n → 48 ≤ d j ∧ d j ≤ 57
  d0 : d 0 ≠ 48
  lead : ∀ j, j < a → bt t (dpos k j) = 48
  mid : ∀ j, j < n → bt t (dpos k (a + j)) = d j
  tail : ∀ j, a + n ≤ j → j < dnum q k → bt t (dpos k j) = 48

theorem dval_congr {d e : Nat → Nat} : ∀ n, (∀ j, j < n → d j = e j) → dval d n = dval e n
  | 0, _ => rfl
  | n + 1, h => by
    unfold dval
    rw [dval_congr n fun j hj => h j (by omega), h n (by omega)]
theorem dval_zeros {d : Nat → Nat} {n : Nat} : ∀ r, (∀ j, n ≤ j → j < n + r → d j = 48) → dval d (n + r) = dval d n * 10 ^ r
  | 0, _ => by simp
  | r + 1, h => by
    show dval d (n + r) * 10 + (d (n + r) - 48) = _
    rw [dval_zeros r fun j h1 h2 => h j h1 (by omega), h (n + r) (by omega) (by omega), Nat.pow_succ, Nat.sub_self, Nat.add_zero, Nat.mul_assoc]

/-- digits ahead of a place -/
def dcn (k i : Nat) : Nat := if i ≤ k then i else i - 1
structure StAt (t : ByteArray) (k a : Nat) (i : Nat) : Prop where
  nd : (mst t i).nd = dcn k i - a
  dot : (mst t i).dot = decide (k < i)
  dp : k < i → (mst t i).dp = (k : Int) - (min (dcn k i) a : Nat)
  dig : (mst t i).dig = decide (0 < dcn k i)
  f : fst t i = dval (fun j => bt t (dpos k (a + j))) (dcn k i - a)

/-- the digits, one after another: zeros up to 'a', then one that is none -/
theorem stAt {t : ByteArray} {q k a : Nat} (hkq : k ≤ q) (hdot : k < q → bt t k = 46) (hlead : ∀ j, j < a → j < dnum q k → bt t (dpos k j) = 48)
    (hdig : ∀ j, j < dnum q k → 48 ≤ bt t (dpos k j) ∧ bt t (dpos k j) ≤ 57) (h0 : a < dnum q k → bt t (dpos k a) ≠ 48) : ∀ i, i ≤ q → StAt t k a i
  | 0, _ => ⟨by simp [mst, dcn], by simp [mst], fun h => absurd h (by omega), by simp [mst, dcn], by simp [fst, dcn, dval]⟩
  | i + 1, hi => by
    have ih := stAt hkq hdot hlead hdig h0 i (by omega)
    obtain ⟨h1, h2, h3, h4, h5⟩ := ih
    by_cases hik : i = k
    · subst hik
      obtain ⟨a1, a2, a3, a4, a5⟩ := st_dot (hdot (by omega))
      have e1 : dcn i (i + 1) = i := by unfold dcn; rw [if_neg (by omega)]; omega
      have e2 : dcn i i = i := by unfold dcn; rw [if_pos (by omega)]
      rw [e2] at h1 h4 h5
      exact ⟨by rw [a1, h1, e1], by rw [a3]; simp, fun _ => by rw [a2, h1, e1]; omega, by rw [a4, h4, e1], by rw [a5, h5, e1]⟩
    · have ej : ∃ j, j = dcn k i ∧ dpos k j = i ∧ dcn k (i + 1) = j + 1 ∧ j < dnum q k := by
        refine ⟨_, rfl, ?_, ?_, ?_⟩
        · unfold dpos dcn
          by_cases h : i ≤ k
          · rw [if_pos h, if_pos (by omega)]
          · rw [if_neg h, if_neg (by omega)]; omega
        · unfold dcn
          by_cases h : i ≤ k
          · rw [if_pos h, if_pos (by omega)]
          · rw [if_neg h, if_neg (by omega)]; omega
        · unfold dcn dnum
          by_cases h : i ≤ k
          · rw [if_pos h]; split <;> omega
          · rw [if_neg h]; split <;> omega
      obtain ⟨j, hj, hp, hc, hjm⟩ := ej
      rw [← hj] at h1 h4 h5 h3
      have hd := hdig j hjm
      rw [hp] at hd
      have hdot2 : (mst t (i + 1)).dot = (mst t i).dot → (mst t (i + 1)).dot = decide (k < i + 1) := fun e => by
        rw [e, h2, Bool.eq_iff_iff]; simp; omega
      by_cases hja : j < a
      · have h48 := hlead j hja hjm
        rw [hp] at h48
        have hz : (mst t i).nd = 0 := by rw [h1]; omega
        obtain ⟨a1, a2, a3, a4, a5⟩ := st_zero h48 hz
        refine ⟨by rw [a1, hz, hc]; omega, hdot2 a3, fun hk => ?_, by rw [a4, hc]; simp, ?_⟩
        · have : k < i := by omega
          rw [a2, h3 this, hc]
          omega
        · rw [a5, h5, hc, show j - a = 0 by omega, show j + 1 - a = 0 by omega]
      · have hn48 : ¬ (bt t i = 48 ∧ (mst t i).nd = 0) := by
          rintro ⟨h48, hz⟩
          rw [h1] at hz
          have : j = a := by omega
          subst this
          exact h0 hjm (by rw [hp]; exact h48)
        obtain ⟨a1, a2, a3, a4, a5⟩ := st_dig (by omega) hn48
        refine ⟨by rw [a1, h1, hc]; omega, hdot2 a3, fun hk => ?_, by rw [a4, hc]; simp, ?_⟩
        · have : k < i := by omega
          rw [a2, h3 this, hc]
          omega
        · rw [a5, h5, hc, show j + 1 - a = (j - a) + 1 by omega, dval, show a + (j - a) = j by omega, hp]

theorem dnum_dcn {q k : Nat} (h : k ≤ q) : dcn k q = dnum q k := by
  unfold dcn dnum
  by_cases e : k < q
  · rw [if_neg (by omega), if_pos e]
  · rw [if_pos (by omega), if_neg e]
theorem mok_of {t : ByteArray} {q k : Nat} (hkq : k ≤ q) (hdot : k < q → bt t k = 46) (hdig : ∀ j, j < dnum q k → 48 ≤ bt t (dpos k j) ∧ bt t (dpos k j) ≤ 57)
    (hst : ∀ i, i ≤ q → (mst t i).dot = decide (k < i)) (hl : (mst t q).dig = true) : MOk t q := by
  have hpos : ∀ i, i < q → i ≠ k → ∃ j, j < dnum q k ∧ dpos k j = i := by
    intro i hi hne
    refine ⟨if i < k then i else i - 1, ?_, ?_⟩
    · unfold dnum; split <;> split <;> omega
    · unfold dpos
      by_cases h : i < k
      · rw [if_pos h, if_pos h]
      · rw [if_neg h, if_neg (by omega)]; omega
  refine ⟨fun i hi => ?_, fun i hi h46 => ?_, hl⟩
  · by_cases e : i = k
    · subst e; exact .inr (hdot hi)
    · obtain ⟨j, hj, hp⟩ := hpos i hi e
      have := hdig j hj
      rw [hp] at this
      exact .inl this
  · by_cases e : i = k
    · subst e; rw [hst i (by omega)]; simp
    · obtain ⟨j, hj, hp⟩ := hpos i hi e
      have := hdig j hj
      rw [hp] at this
      omega

theorem Shp.digs {t : ByteArray} {q k a n : Nat} {d : Nat → Nat} (h : Shp t q k a n d) : ∀ j, j < dnum q k → 48 ≤ bt t (dpos k j) ∧ bt t (dpos k j) ≤ 57 := by
  intro j hj
  by_cases h1 : j < a
  · rw [h.lead j h1]; omega
  · by_cases h2 : j < a + n
    · have := h.mid (j - a) (by omega)
      rw [show a + (j - a) = j by omega] at this
      rw [this]; exact h.dig _ (by omega)
    · rw [h.tail j (by omega) hj]; omega
theorem Shp.st {t : ByteArray} {q k a n : Nat} {d : Nat → Nat} (h : Shp t q k a n d) : ∀ i, i ≤ q → StAt t k a i :=
  stAt h.kq h.dot (fun j h1 _ => h.lead j h1) h.digs fun _ => by
    have := h.mid 0 h.n1
    rw [Nat.add_zero] at this
    rw [this]; exact h.d0
theorem Shp.mok {t : ByteArray} {q k a n : Nat} {d : Nat → Nat} (h : Shp t q k a n d) : MOk t q :=
  mok_of h.kq h.dot h.digs (fun i hi => (h.st i hi).dot) (by
    rw [(h.st q (Nat.le_refl _)).dig, dnum_dcn h.kq]
    have h1 := h.fit
    have h2 := h.n1
    exact decide_eq_true (by omega))
theorem Shp.q0 {t : ByteArray} {q k a n : Nat} {d : Nat → Nat} (h : Shp t q k a n d) : 0 < q := by
  have h1 := h.fit
  have h2 := h.n1
  unfold dnum at h1
  split at h1 <;> omega
/-- what it is worth -/
theorem Shp.worth {t : ByteArray} {q k a n : Nat} {d : Nat → Nat} (h : Shp t q k a n d) (hq : q ≤ 100) (ex : Int) :
    fV t q = dval d n * 10 ^ (N8 - n) ∧ fD t q ex = (k : Int) - a + ex := by
  obtain ⟨h1, h2, h3, _, h5⟩ := h.st q (Nat.le_refl _)
  have e8 := N8_eq
  have hkq := h.kq
  have hf := h.fit
  rw [dnum_dcn hkq] at h1 h3 h5
  have hm : dnum q k ≤ q := by unfold dnum; split <;> omega
  constructor
  · unfold fV
    rw [h1, h5]
    obtain ⟨r, hr⟩ : ∃ r, dnum q k - a = n + r := ⟨dnum q k - a - n, by omega⟩
    rw [hr, dval_zeros r, Nat.mul_assoc, ← Nat.pow_add, show r + (N8 - (n + r)) = N8 - n by omega]
    · congr 1
      exact dval_congr n fun j hj => h.mid j hj
    · intro j hj1 hj2
      exact h.tail (a + j) (by omega) (by omega)
  · unfold fD
    rw [h2]
    by_cases e : k < q
    · rw [if_pos (by simpa using e), h3 e]; omega
    · rw [if_neg (by simpa using e), h1]
      have : dnum q k = q := by unfold dnum; rw [if_neg e]
      omega

/-- zeros alone -/
structure Zer (t : ByteArray) (q k : Nat) : Prop where
  kq : k ≤ q
  dot : k < q → bt t k = 46
  some : 1 ≤ dnum q k
  zero : ∀ j, j < dnum q k → bt t (dpos k j) = 48
theorem Zer.st {t : ByteArray} {q k : Nat} (h : Zer t q k) : ∀ i, i ≤ q → StAt t k (dnum q k) i :=
  stAt h.kq h.dot (fun j _ h2 => h.zero j h2) (fun j hj => by rw [h.zero j hj]; omega) fun h => absurd h (by omega)
theorem Zer.mok {t : ByteArray} {q k : Nat} (h : Zer t q k) : MOk t q :=
  mok_of h.kq h.dot (fun j hj => by rw [h.zero j hj]; omega) (fun i hi => (h.st i hi).dot) (by
    rw [(h.st q (Nat.le_refl _)).dig, dnum_dcn h.kq]
    exact decide_eq_true h.some)
theorem Zer.worth {t : ByteArray} {q k : Nat} (h : Zer t q k) : fV t q = 0 := by
  obtain ⟨_, _, _, _, h5⟩ := h.st q (Nat.le_refl _)
  rw [dnum_dcn h.kq, Nat.sub_self] at h5
  unfold fV
  rw [h5]
  simp [dval]
theorem gF_zero (D : Int) : gF 0 D = 0 := by unfold gF; rw [if_pos rfl]
end Go.Proofs.YtblphppdfiipfaaDoor
