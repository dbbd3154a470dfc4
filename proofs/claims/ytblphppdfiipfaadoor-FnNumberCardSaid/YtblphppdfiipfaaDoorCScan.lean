/- How the lexer scans a number (plain). Conditions: none. -/
import Derived.Test.YtblphppdfiipfaaDoorCRun
import Derived.Test.YtblphppdfiipfaaDoorCVal
import Derived.Test.YtblphppdfiipfaaDoorCBlk
namespace Go.Proofs.YtblphppdfiipfaaDoor
open Go.RowKit

theorem dgP_iff (c : Nat) : dgP c = true ↔ 48 ≤ c ∧ c ≤ 57 := by unfold dgP dg; simp; omega
/-- where the digits end -/
def nA (s : ByteArray) (p : Nat) : Nat := spn dgP s s.size p
theorem spn_dig (s : ByteArray) : ∀ f p i, p ≤ i → i < spn dgP s f p → 48 ≤ bt s i ∧ bt s i ≤ 57
  | 0, p, i, h1, h2 => by unfold spn at h2; omega
  | f + 1, p, i, h1, h2 => by
    unfold spn at h2
    by_cases hc : p < s.size ∧ dgP (bt s p) = true
    · rw [if_pos hc] at h2
      by_cases e : i = p
      · subst e; exact (dgP_iff _).1 hc.2
      · exact spn_dig s f (p + 1) i (by omega) h2
    · rw [if_neg hc] at h2; omega
theorem spn_end (s : ByteArray) : ∀ f p, s.size ≤ f + p → spn dgP s f p < s.size → ¬ (48 ≤ bt s (spn dgP s f p) ∧ bt s (spn dgP s f p) ≤ 57)
  | 0, p, h1, h2 => by unfold spn at h2; omega
  | f + 1, p, h1, h2 => by
    unfold spn at h2 ⊢
    by_cases hc : p < s.size ∧ dgP (bt s p) = true
    · rw [if_pos hc] at h2 ⊢
      exact spn_end s f (p + 1) (by omega) h2
    · rw [if_neg hc] at h2 ⊢
      intro h
      exact hc ⟨h2, (dgP_iff _).2 h⟩
theorem nA_b {s : ByteArray} {p : Nat} (h : p ≤ s.size) : p ≤ nA s p ∧ nA s p ≤ s.size := spn_b _ _ _ _ h
theorem nA_dig {s : ByteArray} {p i : Nat} (h1 : p ≤ i) (h2 : i < nA s p) : 48 ≤ bt s i ∧ bt s i ≤ 57 := spn_dig s _ _ _ h1 h2
theorem nA_end {s : ByteArray} {p : Nat} (h : nA s p < s.size) : ¬ (48 ≤ bt s (nA s p) ∧ bt s (nA s p) ≤ 57) := spn_end s _ _ (by omega) h
theorem nA_eq {s : ByteArray} {p e : Nat} (h1 : p ≤ e) (h2 : e ≤ s.size) (h3 : ∀ i, p ≤ i → i < e → 48 ≤ bt s i ∧ bt s i ≤ 57) (h4 : e < s.size → ¬ (48 ≤ bt s e ∧ bt s e ≤ 57)) : nA s p = e := by
  obtain ⟨a, b⟩ := nA_b (s := s) (p := p) (by omega)
  rcases Nat.lt_trichotomy (nA s p) e with h | h | h
  · exact absurd (h3 _ a h) (nA_end (by omega))
  · exact h
  · exact absurd (nA_dig h1 h) (h4 (by omega))

def nB (s : ByteArray) (p : Nat) : Nat := if nA s p < s.size ∧ bt s (nA s p) = 46 then nA s (nA s p + 1) else nA s p
def nC (s : ByteArray) (b : Nat) : Nat := if b + 1 < s.size ∧ (bt s (b + 1) = 43 ∨ bt s (b + 1) = 45) then b + 2 else b + 1
def nX (s : ByteArray) (b : Nat) : Option Nat :=
  if b < s.size ∧ bt s b ||| 32 = 101 then (if nA s (nC s b) = nC s b ∨ nC s b + 6 < nA s (nC s b) then none else some (nA s (nC s b))) else some b
/-- a byte that may not follow -/
def badP (c : Nat) : Bool := decide ((97 ≤ c ∧ c ≤ 122) ∨ (65 ≤ c ∧ c ≤ 90) ∨ c = 95 ∨ c = 36 ∨ (48 ≤ c ∧ c ≤ 57) ∨ 128 ≤ c ∨ c = 92)
def scanN (s : ByteArray) (p : Nat) : Option Nat :=
  if p + 1 < nA s p ∧ bt s p = 48 then none
  else match nX s (nB s p) with
    | none => none
    | some d => if d < s.size ∧ badP (bt s d) = true then none else some d
/-- the number's first byte -/
def Stt (s : ByteArray) (p : Nat) : Prop := (48 ≤ bt s p ∧ bt s p ≤ 57) ∨ (bt s p = 46 ∧ 48 ≤ bt s (p + 1) ∧ bt s (p + 1) ≤ 57)
def exG (t : ByteArray) (q : Nat) : Int :=
  if q < t.size then (if bt t (q + 1) = 45 then -1 * (est t (q + 2) (t.size - (q + 2)) : Int) else if bt t (q + 1) = 43 then 1 * (est t (q + 2) (t.size - (q + 2)) : Int) else 1 * (est t (q + 1) (t.size - (q + 1)) : Int)) else 0
def numG (t : ByteArray) (q : Nat) : Nat := gF (fV t q) (fD t q (exG t q))

theorem or32_101 (c : Nat) (hc : c < 256) : c ||| 32 = 101 ↔ c = 69 ∨ c = 101 := by
  have : ∀ c : Fin 256, c.val ||| 32 = 101 ↔ c.val = 69 ∨ c.val = 101 := by decide +kernel
  exact this ⟨c, hc⟩
theorem bt_lt (s : ByteArray) (i : Nat) : bt s i < 256 := by
  unfold bt
  split
  · exact UInt8.toNat_lt _
  · omega
theorem bt_out {s : ByteArray} {i : Nat} (h : s.size ≤ i) : bt s i = 0 := by unfold bt; rw [dif_neg (by omega)]
theorem ext_size (s : ByteArray) (p e : Nat) (h : e ≤ s.size) : (s.extract p e).size = e - p := by rw [ByteArray.size_extract]; omega
theorem bt_ext {s : ByteArray} {p e j : Nat} (h : e ≤ s.size) (hj : p + j < e) : bt (s.extract p e) j = bt s (p + j) := by
  have h1 : j < (s.extract p e).size := by rw [ext_size _ _ _ h]; omega
  rw [bt_eq h1, bt_eq (by omega : p + j < s.size)]
  congr 1
  exact ByteArray.getElem_extract h1

theorem Stt.lt {s : ByteArray} {p : Nat} (h : Stt s p) : p < s.size := by
  refine Nat.lt_of_not_le fun hn => ?_
  have := bt_out hn
  rcases h with h | h <;> omega
/-- the text that the lexer takes for a number is a number's text -/
theorem scan_ok {s : ByteArray} {p d : Nat} (hs : s.size ≤ 100) (hS : Stt s p) (hX : nX s (nB s p) = some d) :
    p < d ∧ d ≤ s.size ∧ p < nB s p ∧ nB s p ≤ d ∧ MOk (s.extract p d) (nB s p - p) ∧ EOk (s.extract p d) (nB s p - p) (exG (s.extract p d) (nB s p - p)) := by
  have hp := hS.lt
  obtain ⟨a1, a2⟩ := nA_b (s := s) (p := p) (by omega)
  -- the digits
  have hB : nB s p ≤ s.size ∧ nA s p ≤ nB s p ∧ p < nB s p ∧ ∃ k, k ≤ nB s p - p ∧ (k < nB s p - p → bt s (p + k) = 46) ∧ (∀ i, p ≤ i → i < nB s p → i ≠ p + k → 48 ≤ bt s i ∧ bt s i ≤ 57) ∧ (k < nB s p - p → 1 < nB s p - p) := by
    unfold nB
    by_cases hd : nA s p < s.size ∧ bt s (nA s p) = 46
    · rw [if_pos hd]
      obtain ⟨b1, b2⟩ := nA_b (s := s) (p := nA s p + 1) (by omega)
      refine ⟨b2, by omega, by omega, nA s p - p, by omega, fun _ => by rw [show p + (nA s p - p) = nA s p by omega]; exact hd.2, fun i h1 h2 h3 => ?_, fun _ => ?_⟩
      · by_cases e : i < nA s p
        · exact nA_dig h1 e
        · exact nA_dig (p := nA s p + 1) (by omega) h2
      · rcases hS with h | h
        · have : p < nA s p := by
            refine Nat.lt_of_not_le fun hn => ?_
            have e : nA s p = p := by omega
            exact nA_end (s := s) (p := p) (by omega) (by rw [e]; exact h)
          omega
        · have e : nA s p = p := nA_eq (Nat.le_refl _) (by omega) (fun i _ _ => by omega) (fun _ => by omega)
          rw [e]
          have : p + 1 < nA s (p + 1) := by
            rw [e] at b1
            refine Nat.lt_of_not_le fun hn => ?_
            have e2 : nA s (p + 1) = p + 1 := by omega
            have hlt : p + 1 < s.size := by
              refine Nat.lt_of_not_le fun hn => ?_
              have := bt_out hn
              omega
            exact nA_end (s := s) (p := p + 1) (by omega) (by rw [e2]; exact h.2)
          omega
    · rw [if_neg hd]
      have hlt : p < nA s p := by
        refine Nat.lt_of_not_le fun hn => ?_
        have e : nA s p = p := by omega
        have h1 := nA_end (s := s) (p := p) (by omega)
        rw [e] at h1 hd
        rcases hS with h | h
        · exact h1 h
        · exact hd ⟨hp, h.1⟩
      exact ⟨a2, Nat.le_refl _, hlt, nA s p - p, by omega, fun h => by omega, fun i h1 h2 _ => nA_dig h1 h2, fun h => by omega⟩
  obtain ⟨b1, b2, b3, k, k1, k2, k3, k4⟩ := hB
  generalize nB s p = b at b1 b2 b3 k1 k2 k3 k4 hX ⊢
  have hbd : b ≤ d ∧ d ≤ s.size ∧ ((d = b) ∨ (b < s.size ∧ bt s b ||| 32 = 101 ∧ nA s (nC s b) ≠ nC s b ∧ d = nA s (nC s b))) := by
    unfold nX at hX
    by_cases he : b < s.size ∧ bt s b ||| 32 = 101
    · rw [if_pos he] at hX
      have hc : nC s b ≤ s.size ∧ b < nC s b := by unfold nC; split <;> omega
      obtain ⟨c1, c2⟩ := nA_b hc.1
      by_cases hn : nA s (nC s b) = nC s b ∨ nC s b + 6 < nA s (nC s b)
      · rw [if_pos hn] at hX; exact absurd hX (by simp)
      · rw [if_neg hn, Option.some.injEq] at hX
        subst hX
        exact ⟨by omega, c2, .inr ⟨he.1, he.2, fun e => hn (.inl e), rfl⟩⟩
    · rw [if_neg he, Option.some.injEq] at hX
      subst hX
      exact ⟨Nat.le_refl _, b1, .inl rfl⟩
  obtain ⟨d1, d2, d3⟩ := hbd
  have hbt : ∀ j, p + j < d → bt (s.extract p d) j = bt s (p + j) := fun j hj => bt_ext d2 hj
  have hsz := ext_size s p d d2
  generalize s.extract p d = t at hbt hsz ⊢
  refine ⟨by omega, d2, b3, d1, ?_, ?_⟩
  · have hpos : ∀ j, j < dnum (b - p) k → dpos k j < b - p ∧ dpos k j ≠ k := by
      intro j hj
      unfold dnum at hj
      unfold dpos
      split at hj <;> split <;> omega
    have hdig : ∀ j, j < dnum (b - p) k → 48 ≤ bt t (dpos k j) ∧ bt t (dpos k j) ≤ 57 := by
      intro j hj
      obtain ⟨e1, e2⟩ := hpos j hj
      rw [hbt _ (by omega)]
      exact k3 _ (by omega) (by omega) (by omega)
    have hdot : k < b - p → bt t k = 46 := fun h => by rw [hbt _ (by omega)]; exact k2 h
    have hm1 : 1 ≤ dnum (b - p) k := by
      unfold dnum
      split
      · have := k4 (by assumption); omega
      · omega
    -- leading zeros: as many as there are
    have hz : ∃ a, a ≤ dnum (b - p) k ∧ (∀ j, j < a → bt t (dpos k j) = 48) ∧ (a < dnum (b - p) k → bt t (dpos k a) ≠ 48) := by
      have : ∀ m, ∃ a, a ≤ m ∧ (∀ j, j < a → bt t (dpos k j) = 48) ∧ (a < m → bt t (dpos k a) ≠ 48) := by
        intro m
        induction m with
        | zero => exact ⟨0, Nat.le_refl _, fun j h => absurd h (by omega), fun h => absurd h (by omega)⟩
        | succ m ih =>
          obtain ⟨a, h1, h2, h3⟩ := ih
          by_cases e : a = m
          · by_cases e2 : bt t (dpos k m) = 48
            · refine ⟨m + 1, Nat.le_refl _, fun j hj => ?_, fun h => absurd h (by omega)⟩
              by_cases e3 : j = m
              · subst e3; exact e2
              · exact h2 j (by omega)
            · exact ⟨m, by omega, fun j hj => h2 j (by omega), fun _ => e2⟩
          · exact ⟨a, by omega, h2, fun _ => h3 (by omega)⟩
      exact this _
    obtain ⟨a, z1, z2, z3⟩ := hz
    have hst := stAt (t := t) (a := a) k1 hdot (fun j h _ => z2 j h) hdig z3
    exact mok_of k1 hdot hdig (fun i hi => (hst i hi).dot) (by
      rw [(hst _ (Nat.le_refl _)).dig, dnum_dcn k1]
      exact decide_eq_true hm1)
  · rcases d3 with rfl | ⟨e1, e2, e3, rfl⟩
    · left
      refine ⟨by omega, ?_⟩
      unfold exG
      rw [if_neg (by omega)]
    · right
      have hc : nC s b ≤ s.size ∧ b < nC s b := by unfold nC; split <;> omega
      obtain ⟨c1, c2⟩ := nA_b hc.1
      have hlt : nC s b < nA s (nC s b) := by omega
      have h101 := (or32_101 _ (bt_lt s b)).1 e2
      have hq : bt t (b - p) = bt s b := by rw [hbt _ (by omega), show p + (b - p) = b by omega]
      refine ⟨by omega, by rw [hq]; exact h101, ?_⟩
      have hdd : ∀ i, nC s b - p ≤ i → i < t.size → 48 ≤ bt t i ∧ bt t i ≤ 57 := fun i h1 h2 => by
        rw [hbt _ (by omega)]; exact nA_dig (p := nC s b) (by omega) (by omega)
      have hq1 : bt t (b - p + 1) = bt s (b + 1) := by rw [hbt _ (by omega), show p + (b - p + 1) = b + 1 by omega]
      unfold exG
      rw [if_pos (by omega), hq1]
      by_cases hsg : b + 1 < s.size ∧ (bt s (b + 1) = 43 ∨ bt s (b + 1) = 45)
      · have hC : nC s b = b + 2 := by unfold nC; rw [if_pos hsg]
        rcases hsg.2 with h | h
        · rw [if_neg (by omega), if_pos h]
          exact ⟨b - p + 2, 1, by omega, by omega, fun i h1 h2 => hdd i (by omega) h2, rfl, .inr (.inl ⟨rfl, h, rfl⟩)⟩
        · rw [if_pos h]
          exact ⟨b - p + 2, -1, by omega, by omega, fun i h1 h2 => hdd i (by omega) h2, rfl, .inr (.inr ⟨rfl, h, rfl⟩)⟩
      · have hC : nC s b = b + 1 := by unfold nC; rw [if_neg hsg]
        have hx := nA_dig (s := s) (p := nC s b) (i := b + 1) (by omega) (by omega)
        rw [if_neg (by omega), if_neg (by omega)]
        exact ⟨b - p + 1, 1, by omega, by omega, fun i h1 h2 => hdd i (by omega) h2, rfl, .inl ⟨rfl, rfl⟩⟩
theorem ext_whole (s : ByteArray) : s.extract 0 s.size = s := ByteArray.extract_zero_size
open Dc

/-- a number's text, by its bytes: digits up to q, a point at k (q: none), the exponent ex behind q -/
structure In9 (c : Nat → Nat) (N q k : Nat) (ex : Int) : Prop where
  n1 : 1 < N
  n100 : N ≤ 100
  kq : k ≤ q
  qN : q ≤ N
  dot : k < q → c k = 46
  dig : ∀ i, i < q → i ≠ k → 48 ≤ c i ∧ c i ≤ 57
  some : 0 < k ∨ 1 < q
  nz : 1 < k → c 0 ≠ 48
  exp : (q = N ∧ ex = 0) ∨ (q < N ∧ (c q = 69 ∨ c q = 101) ∧ ∃ r, r < N ∧ (∀ i, r ≤ i → i < N → 48 ≤ c i ∧ c i ≤ 57) ∧ N ≤ r + 4 ∧
    ((r = q + 1 ∧ ex = cest c r (N - r)) ∨ (r = q + 2 ∧ c (q + 1) = 43 ∧ ex = cest c r (N - r)) ∨ (r = q + 2 ∧ c (q + 1) = 45 ∧ ex = -(cest c r (N - r) : Int))))

/-- the shape of digits, by bytes -/
structure ShpC (c : Nat → Nat) (q k a n : Nat) (d : Nat → Nat) : Prop where
  kq : k ≤ q
  dot : k < q → c k = 46
  n1 : 1 ≤ n
  fit : a + n ≤ dnum q k
  dig : ∀ j, j < n → 48 ≤ d j ∧ d j ≤ 57
  d0 : d 0 ≠ 48
  lead : ∀ j, j < a → c (dpos k j) = 48
  mid : ∀ j, j < n → c (dpos k (a + j)) = d j
  tail : ∀ j, a + n ≤ j → j < dnum q k → c (dpos k j) = 48
theorem dpos_lt {q k j : Nat} (hk : k ≤ q) (hj : j < dnum q k) : dpos k j < q := by
  unfold dnum at hj
  unfold dpos
  split at hj <;> split <;> omega
theorem ShpC.shp {t : ByteArray} {c : Nat → Nat} {q k a n : Nat} {d : Nat → Nat} (h : ShpC c q k a n d) (ht : ∀ i, i < q → bt t i = c i) : Shp t q k a n d := by
  have hf := h.fit
  refine ⟨h.kq, fun hk => (ht k hk).trans (h.dot hk), h.n1, h.fit, h.dig, h.d0, fun j hj => ?_, fun j hj => ?_, fun j h1 h2 => ?_⟩
  · rw [ht _ (dpos_lt h.kq (by omega))]; exact h.lead j hj
  · rw [ht _ (dpos_lt h.kq (by omega))]; exact h.mid j hj
  · rw [ht _ (dpos_lt h.kq h2)]; exact h.tail j h1 h2

/-- digits of x stand at o, L of them -/
def Wr (b : Nat → Nat) (o L x : Nat) : Prop := ∀ j, j < L → b (o + L - 1 - j) = 48 + x / 10 ^ j % 10
/-- the exponent that is written -/
def ExB (b : Nat → Nat) (q M : Nat) (ex : Int) : Prop :=
  (q = M ∧ ex = 0) ∨ (b q = 101 ∧ ∃ o x L, o + L = M ∧ 1 ≤ L ∧ L ≤ 5 ∧ x < 10 ^ L ∧ Wr b o L x ∧ ((o = q + 1 ∧ ex = x) ∨ (o = q + 2 ∧ b (q + 1) = 45 ∧ ex = -(x : Int))))
/-- what is written: the digits d, worth E at the point -/
def Res (b : Nat → Nat) (M n : Nat) (d : Nat → Nat) (E : Int) : Prop :=
  ∃ q k a ex, q ≤ M ∧ ShpC b q k a n d ∧ (1 < k → b 0 ≠ 48) ∧ ExB b q M ex ∧ (k : Int) - a + ex = E
def OutOk (c : Nat → Nat) (N q k : Nat) (ex : Int) (b : Nat → Nat) (M : Nat) : Prop :=
  (M = N ∧ ∀ j, j < N → b j = c j) ∨ (M = 1 ∧ b 0 = 48 ∧ ∀ i, i < q → i ≠ k → c i = 48) ∨ ∃ a n d, ShpC c q k a n d ∧ Res b M n d ((k : Int) - a + ex)

/-! the three kinds of digits, as they stand -/
/-- no digit ahead of the point that counts: the point at st = k, the first digit at m, the last ahead of e -/
structure K1 (c : Nat → Nat) (q k e m : Nat) : Prop where
  h0 : k = 0 ∨ (k = 1 ∧ c 0 = 48)
  hm : k < m
  he : m < e
  hq : e ≤ q
  z : ∀ j, k < j → j < m → c j = 48
  nz : c m ≠ 48
  t : ∀ j, e ≤ j → j < q → c j = 48
/-- digits ahead of the point alone: n of them, then zeros -/
structure K2 (c : Nat → Nat) (q k n : Nat) : Prop where
  h1 : 1 ≤ n
  hn : n ≤ k
  nz : c 0 ≠ 48
  z : ∀ j, n ≤ j → j < k → c j = 48
  t : ∀ j, k < j → j < q → c j = 48
/-- digits on both sides -/
structure K3 (c : Nat → Nat) (q k e : Nat) : Prop where
  h1 : 1 ≤ k
  he : k + 2 ≤ e
  hq : e ≤ q
  nz : c 0 ≠ 48
  t : ∀ j, e ≤ j → j < q → c j = 48

theorem K1.shp {c : Nat → Nat} {N q k e m : Nat} {ex : Int} (hI : In9 c N q k ex) (h : K1 c q k e m) : ShpC c q k (m - 1) (e - m) fun j => c (m + j) := by
  have h1 := h.hm; have h2 := h.he; have h3 := h.hq
  have hd : dnum q k = q - 1 := by unfold dnum; rw [if_pos (by omega)]
  refine ⟨hI.kq, hI.dot, by omega, by omega, fun j hj => hI.dig _ (by omega) (by omega), h.nz, fun j hj => ?_, fun j hj => ?_, fun j hj1 hj2 => ?_⟩
  · unfold dpos
    by_cases hk : j < k
    · rw [if_pos hk]
      rcases h.h0 with h0 | ⟨h0, h0'⟩
      · omega
      · rw [show j = 0 by omega]; exact h0'
    · rw [if_neg hk]; exact h.z _ (by omega) (by omega)
  · unfold dpos
    rw [if_neg (by omega)]
    congr 1; omega
  · unfold dpos
    rw [if_neg (by omega)]
    exact h.t _ (by omega) (by omega)
theorem K2.shp {c : Nat → Nat} {N q k n : Nat} {ex : Int} (hI : In9 c N q k ex) (h : K2 c q k n) : ShpC c q k 0 n fun j => c j := by
  have h1 := h.h1; have h2 := h.hn; have h3 := hI.kq
  have hd : k ≤ dnum q k := by unfold dnum; split <;> omega
  refine ⟨hI.kq, hI.dot, h1, by omega, fun j hj => hI.dig _ (by omega) (by omega), h.nz, fun j hj => absurd hj (by omega), fun j hj => ?_, fun j hj1 hj2 => ?_⟩
  · unfold dpos
    rw [if_pos (by omega)]
    congr 1; omega
  · unfold dpos
    by_cases hk : j < k
    · rw [if_pos hk]; exact h.z _ (by omega) hk
    · rw [if_neg hk]
      have : j + 1 < q := by
        unfold dnum at hj2
        split at hj2 <;> omega
      exact h.t _ (by omega) this
theorem K3.shp {c : Nat → Nat} {N q k e : Nat} {ex : Int} (hI : In9 c N q k ex) (h : K3 c q k e) : ShpC c q k 0 (e - 1) fun j => c (dpos k j) := by
  have h1 := h.h1; have h2 := h.he; have h3 := h.hq
  have hd : dnum q k = q - 1 := by unfold dnum; rw [if_pos (by omega)]
  refine ⟨hI.kq, hI.dot, by omega, by omega, fun j hj => ?_, ?_, fun j hj => absurd hj (by omega), fun j hj => ?_, fun j hj1 hj2 => ?_⟩
  · have := dpos_lt hI.kq (show j < dnum q k by omega)
    exact hI.dig _ this (by unfold dpos; split <;> omega)
  · unfold dpos; rw [if_pos (by omega)]; exact h.nz
  · congr 2; omega
  · unfold dpos
    rw [if_neg (by omega)]
    exact h.t _ (by omega) (by omega)
end Go.Proofs.YtblphppdfiipfaaDoor
