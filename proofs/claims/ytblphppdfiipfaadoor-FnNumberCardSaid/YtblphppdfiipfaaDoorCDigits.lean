/- The slow way of reading a decimal, as plain functions on numbers of 800 digits. Conditions: none. -/
import GoSem.PinnedTables
namespace Go.Proofs.YtblphppdfiipfaaDoor.Dc

/-- 800, behind a name -/
def N8 : Nat := 800
theorem N8_eq : N8 = 800 := rfl
/-- 10 to the 800 -/
def T8 : Nat := 10 ^ N8
theorem T8_pos : 0 < T8 := Nat.pow_pos (by omega)
theorem T8_eq (i : Nat) (h : i ≤ N8) : T8 = 10 ^ i * 10 ^ (N8 - i) := by
  unfold T8; rw [← Nat.pow_add]; congr 1; omega
/-- 799 -/
def N9 : Nat := 799
theorem N9_eq : N8 = N9 + 1 := rfl
theorem T8_nine : T8 = 10 ^ N9 * 10 := by unfold T8; rw [N9_eq, Nat.pow_succ]
theorem p10 (i : Nat) : 0 < 10 ^ i := Nat.pow_pos (by omega)

/-- the first r digits, as a number -/
def pre (V r : Nat) : Nat := V * 10 ^ r / T8
/-- digit r -/
def dgt (V r : Nat) : Nat := pre V (r + 1) % 10

theorem dgt_lt (V r : Nat) : dgt V r < 10 := Nat.mod_lt _ (by omega)
theorem pre_div (V r i : Nat) : pre V (r + i) / 10 ^ i = pre V r := by
  unfold pre
  rw [Nat.div_div_eq_div_mul, Nat.pow_add, ← Nat.mul_assoc, Nat.mul_div_mul_right _ _ (p10 i)]
theorem pre_succ (V r : Nat) : pre V (r + 1) = pre V r * 10 + dgt V r := by
  have h := pre_div V r 1
  unfold dgt
  rw [Nat.pow_one] at h
  omega
theorem pre_zero {V : Nat} (h : V < T8) : pre V 0 = 0 := by
  unfold pre; rw [Nat.pow_zero, Nat.mul_one]; exact Nat.div_eq_of_lt h
theorem pre_N8 (V : Nat) : pre V N8 = V := by
  unfold pre T8; exact Nat.mul_div_cancel _ (p10 _)
theorem pre_mono {V W : Nat} (h : V ≤ W) (r : Nat) : pre V r ≤ pre W r := Nat.div_le_div_right (Nat.mul_le_mul_right _ h)
theorem pre_lt {V r : Nat} (h : V < T8) : pre V r < 10 ^ r := by
  unfold pre
  refine Nat.div_lt_of_lt_mul ?_
  exact Nat.mul_lt_mul_of_pos_right h (p10 r)
theorem pre_up (V r i : Nat) : pre V r ≤ pre V (r + i) := by
  rw [← pre_div V r i]; exact Nat.div_le_self _ _
theorem pre_ge (V j : Nat) : pre V (N8 + j) = V * 10 ^ j := by
  unfold pre T8
  rw [Nat.pow_add, Nat.mul_comm (10 ^ N8), ← Nat.mul_assoc, Nat.mul_div_cancel _ (p10 _)]
theorem dgt_ge (V r : Nat) (h : N8 ≤ r) : dgt V r = 0 := by
  obtain ⟨j, rfl⟩ : ∃ j, r = N8 + j := ⟨r - N8, by omega⟩
  unfold dgt
  rw [Nat.add_assoc, pre_ge, Nat.pow_succ, ← Nat.mul_assoc, Nat.mul_mod_left]
theorem pre_tail {V nd : Nat} (h : ∀ i, nd ≤ i → dgt V i = 0) : ∀ j, pre V (nd + j) = pre V nd * 10 ^ j
  | 0 => by rw [Nat.add_zero, Nat.pow_zero, Nat.mul_one]
  | j + 1 => by rw [← Nat.add_assoc, pre_succ, pre_tail h j, h _ (by omega), Nat.pow_succ, Nat.mul_assoc, Nat.add_zero]
theorem val_tail {V nd : Nat} (h : ∀ i, nd ≤ i → dgt V i = 0) (hn : nd ≤ N8) : V = pre V nd * 10 ^ (N8 - nd) := by
  have e := pre_tail h (N8 - nd)
  rw [show nd + (N8 - nd) = N8 by omega, pre_N8] at e
  exact e
theorem pre_eq {V W : Nat} (hV : V < T8) (hW : W < T8) : ∀ i, (∀ j, j < i → dgt V j = dgt W j) → pre V i = pre W i
  | 0, _ => by rw [pre_zero hV, pre_zero hW]
  | i + 1, h => by rw [pre_succ, pre_succ, pre_eq hV hW i fun j hj => h j (by omega), h i (by omega)]
theorem lt_of_dgt {V W i : Nat} (hV : V < T8) (hW : W < T8) (h : ∀ j, j < i → dgt V j = dgt W j) (hi : dgt V i < dgt W i) : V < W := by
  refine Nat.lt_of_not_le fun hle => ?_
  have e := pre_mono hle (i + 1)
  rw [pre_succ, pre_succ, pre_eq hV hW i h] at e
  omega
theorem eq_of_dgt {V W : Nat} (hV : V < T8) (hW : W < T8) (h : ∀ j, j < N8 → dgt V j = dgt W j) : V = W := by
  rw [← pre_N8 V, ← pre_N8 W]; exact pre_eq hV hW _ h

/-- a leading digit that is not nought -/
def Big (V : Nat) : Prop := T8 ≤ V * 10 ∧ V < T8
theorem Big.pre_ge {V : Nat} (h : Big V) (r : Nat) : 10 ^ r ≤ pre V (r + 1) := by
  unfold pre
  rw [Nat.le_div_iff_mul_le T8_pos, Nat.pow_succ, Nat.mul_comm (10 ^ r) 10, ← Nat.mul_assoc, Nat.mul_comm _ T8]
  exact Nat.mul_le_mul_right _ h.1
theorem Big.ne {V : Nat} (h : Big V) : V ≠ 0 := by
  intro e; have := h.1; have := T8_pos; omega
theorem big_of_dgt {V : Nat} (hV : V < T8) (h : dgt V 0 ≠ 0) : Big V := by
  refine ⟨?_, hV⟩
  have e := pre_succ V 0
  rw [pre_zero hV] at e
  have : 1 ≤ pre V 1 := by rw [Nat.zero_add] at e; omega
  unfold pre at this
  rw [Nat.le_div_iff_mul_le T8_pos, Nat.one_mul, Nat.pow_one] at this
  exact this
theorem Big.dgt0 {V : Nat} (h : Big V) : dgt V 0 ≠ 0 := by
  have e := pre_succ V 0
  have e1 := h.pre_ge 0
  rw [pre_zero h.2] at e
  rw [Nat.pow_zero] at e1
  omega

/-! the right shift -/
def fnd (V k : Nat) : Nat → Nat → Nat
  | 0, r => r
  | f + 1, r => if pre V r < 2 ^ k then fnd V k f (r + 1) else r
/-- how many digits are taken up first -/
def r0 (V k : Nat) : Nat := fnd V k 100 0
theorem fnd_spec (V k : Nat) : ∀ f r, (∀ i, i < r → pre V i < 2 ^ k) → (∀ i, i < fnd V k f r → pre V i < 2 ^ k) ∧ (2 ^ k ≤ pre V (fnd V k f r) ∨ fnd V k f r = r + f)
  | 0, r, h => ⟨h, .inr rfl⟩
  | f + 1, r, h => by
    unfold fnd
    by_cases hc : pre V r < 2 ^ k
    · rw [if_pos hc]
      have := fnd_spec V k f (r + 1) fun i hi => by
        by_cases e : i = r
        · subst e; exact hc
        · exact h i (by omega)
      refine ⟨this.1, ?_⟩
      rcases this.2 with h2 | h2
      · exact .inl h2
      · exact .inr (by omega)
    · rw [if_neg hc]
      exact ⟨h, .inl (by omega)⟩
theorem two60 {k : Nat} (hk : k ≤ 60) : 2 ^ k ≤ 10 ^ 19 := Nat.le_trans (Nat.pow_le_pow_right (by omega) hk) (by decide)
theorem r0_spec {V k : Nat} (h : Big V) (hk : k ≤ 60) : 1 ≤ r0 V k ∧ r0 V k ≤ 20 ∧ 2 ^ k ≤ pre V (r0 V k) ∧ ∀ i, i < r0 V k → pre V i < 2 ^ k := by
  have hs := fnd_spec V k 100 0 (fun i hi => absurd hi (by omega))
  have h20 : 2 ^ k ≤ pre V 20 := Nat.le_trans (two60 hk) (h.pre_ge 19)
  have a1 : r0 V k ≤ 20 := by
    refine Nat.le_of_not_lt fun hlt => ?_
    have := hs.1 20 hlt
    omega
  have a2 : 2 ^ k ≤ pre V (r0 V k) := by
    rcases hs.2 with h2 | h2
    · exact h2
    · exfalso; have : r0 V k = 0 + 100 := h2; omega
  refine ⟨?_, a1, a2, hs.1⟩
  refine Nat.pos_of_ne_zero fun e => ?_
  rw [e, pre_zero h.2] at a2
  have := Nat.two_pow_pos k
  omega
theorem r0_uniq {V k r : Nat} (h : Big V) (hk : k ≤ 60) (h1 : 2 ^ k ≤ pre V r) (h2 : ∀ i, i < r → pre V i < 2 ^ k) : r = r0 V k := by
  obtain ⟨_, _, a, b⟩ := r0_spec h hk
  refine Nat.le_antisymm (Nat.le_of_not_lt fun hlt => ?_) (Nat.le_of_not_lt fun hlt => ?_)
  · have := h2 _ hlt; omega
  · have := b _ hlt; omega

/-- the value behind a right shift -/
def rV (V k : Nat) : Nat := V * 10 ^ (r0 V k - 1) / 2 ^ k
/-- digit i behind a right shift, beyond 800 too -/
def rD (V k i : Nat) : Nat := pre V (r0 V k + i) / 2 ^ k % 10
/-- is a digit that is not nought dropped? -/
def rT (V k : Nat) : Bool := (List.range 100).any fun i => decide (rD V k (N8 + i) ≠ 0)
theorem rV_dgt {V k i : Nat} (h : Big V) (hk : k ≤ 60) (hi : i < N8) : dgt (rV V k) i = rD V k i := by
  obtain ⟨a1, _, _, _⟩ := r0_spec h hk
  unfold dgt rD
  congr 1
  unfold pre rV
  rw [T8_eq (i + 1) (by omega), Nat.mul_comm (10 ^ (i + 1)) (10 ^ (N8 - (i + 1))), Nat.mul_div_mul_right _ _ (p10 _), Nat.div_div_eq_div_mul, Nat.div_div_eq_div_mul]
  have e : V * 10 ^ (r0 V k + i) = V * 10 ^ (r0 V k - 1) * 10 ^ (i + 1) := by
    rw [Nat.mul_assoc, ← Nat.pow_add]; congr 2; omega
  rw [e, show 10 ^ (N8 - (i + 1)) * 10 ^ (i + 1) * 2 ^ k = 2 ^ k * 10 ^ (N8 - (i + 1)) * 10 ^ (i + 1) by ac_rfl, Nat.mul_div_mul_right _ _ (p10 _)]
theorem rV_big {V k : Nat} (h : Big V) (hk : k ≤ 60) : Big (rV V k) := by
  obtain ⟨a1, _, a3, a4⟩ := r0_spec h hk
  have hp := Nat.two_pow_pos k
  have h2 := a4 (r0 V k - 1) (by omega)
  unfold pre at a3 h2
  rw [Nat.le_div_iff_mul_le T8_pos] at a3
  rw [Nat.div_lt_iff_lt_mul T8_pos] at h2
  have hlt : rV V k < T8 := by
    unfold rV
    rw [Nat.div_lt_iff_lt_mul hp, Nat.mul_comm T8]; exact h2
  refine ⟨?_, hlt⟩
  -- 10^799 ≤ V'
  have e : V * 10 ^ r0 V k = V * 10 ^ (r0 V k - 1) * 10 := by rw [Nat.mul_assoc, ← Nat.pow_succ]; congr 2; omega
  have e8 := T8_nine
  generalize 10 ^ N9 = Q at e8
  have : Q ≤ rV V k := by
    unfold rV
    rw [Nat.le_div_iff_mul_le hp]
    rw [e, e8] at a3
    rw [← Nat.mul_assoc, Nat.mul_comm (2 ^ k)] at a3
    exact Nat.le_of_mul_le_mul_right a3 (by omega)
  rw [e8]
  exact Nat.mul_le_mul_right _ this

/-- what is in hand while digits are put down -/
theorem r_step (V k r : Nat) : pre V r % (2 ^ k * 10) % 2 ^ k * 10 + dgt V r = pre V (r + 1) % (2 ^ k * 10) := by
  have e := pre_succ V r
  have hd := dgt_lt V r
  have hp := Nat.two_pow_pos k
  rw [Nat.mod_mul_right_mod, e, Nat.mul_comm (2 ^ k) 10, Nat.mul_comm (pre V r) 10, Nat.mod_mul,
    show (10 * pre V r + dgt V r) % 10 = dgt V r by omega, show (10 * pre V r + dgt V r) / 10 = pre V r by omega]
  omega
theorem r_dig (V k r : Nat) : pre V r % (2 ^ k * 10) / 2 ^ k = pre V r / 2 ^ k % 10 := Nat.mod_mul_right_div_self _ _ _
theorem r_first {V k : Nat} (h : Big V) (hk : k ≤ 60) : pre V (r0 V k) % (2 ^ k * 10) = pre V (r0 V k) := by
  obtain ⟨a1, _, a3, a4⟩ := r0_spec h hk
  have h2 := a4 (r0 V k - 1) (by omega)
  have e := pre_succ V (r0 V k - 1)
  have hd := dgt_lt V (r0 V k - 1)
  rw [show r0 V k - 1 + 1 = r0 V k by omega] at e
  exact Nat.mod_eq_of_lt (by omega)
/-- nothing in hand: only noughts follow -/
theorem r_done {V k r : Nat} (h0 : pre V r % (2 ^ k * 10) = 0) (ht : ∀ i, r ≤ i → dgt V i = 0) : ∀ j, pre V (r + j) / 2 ^ k % 10 = 0 := by
  intro j
  have : pre V (r + j) % (2 ^ k * 10) = 0 := by
    induction j with
    | zero => exact h0
    | succ j ih => rw [← Nat.add_assoc, ← r_step, ih, ht _ (by omega)]; simp
  rw [← r_dig, this, Nat.zero_div]
/-- how soon nothing is in hand -/
theorem r_even {V k r : Nat} (ht : ∀ i, r ≤ i → dgt V i = 0) : ∀ t, t ≤ k → 2 ^ t ∣ pre V (r + t) % (2 ^ k * 10) := by
  intro t
  induction t with
  | zero => intro _; rw [Nat.pow_zero]; exact Nat.one_dvd _
  | succ t ih =>
    intro hle
    have h1 := ih (by omega)
    rw [← Nat.add_assoc, ← r_step, ht _ (by omega), Nat.add_zero, Nat.pow_succ]
    have h2 : 2 ^ t ∣ pre V (r + t) % (2 ^ k * 10) % 2 ^ k := (Nat.dvd_mod_iff (Nat.pow_dvd_pow 2 (by omega))).2 h1
    exact Nat.mul_dvd_mul h2 (by decide)
theorem r_end {V k r : Nat} (ht : ∀ i, r ≤ i → dgt V i = 0) : pre V (r + (k + 1)) % (2 ^ k * 10) = 0 := by
  have h1 := r_even (k := k) ht k (Nat.le_refl _)
  rw [← Nat.add_assoc, ← r_step, ht _ (by omega), Nat.mod_eq_zero_of_dvd h1]
end Go.Proofs.YtblphppdfiipfaaDoor.Dc
namespace Go.Proofs.YtblphppdfiipfaaDoor.Dc

/-- a row of the left shifts' table -/
def cheat (k : Nat) : Nat × List UInt8 := Go.Pinned.cheatRows.getD k (0, [])
def dK (k : Nat) : Nat := (cheat k).1
/-- the cutoff as an 800-digit number -/
def cK (k : Nat) : Nat := 5 ^ k * 10 ^ (N9 + dK k - k)

structure CheatOk (k : Nat) : Prop where
  row : Go.Pinned.cheatRows[k]? = some (dK k, (cheat k).2)
  d1 : 1 ≤ dK k
  d20 : dK k ≤ 19
  lo : 10 ^ (dK k - 1) ≤ 2 ^ k
  hi : 2 ^ k < 10 ^ dK k
  ct : cK k < T8
  cm : cK k * 2 ^ k = 10 ^ N9 * 10 ^ dK k
  len : (cheat k).2.length ≤ 60
  pos : 0 < (cheat k).2.length
  dig : ∀ j, j < 60 → j < (cheat k).2.length → ((cheat k).2.getD j 0).toNat = 48 + dgt (cK k) j
  last : dgt (cK k) ((cheat k).2.length - 1) ≠ 0
  tail : cK k = pre (cK k) (cheat k).2.length * 10 ^ (N8 - (cheat k).2.length)
def chk (k : Nat) : Bool :=
  decide (Go.Pinned.cheatRows[k]? = some (dK k, (cheat k).2)) && decide (1 ≤ dK k) && decide (dK k ≤ 19) && decide (10 ^ (dK k - 1) ≤ 2 ^ k) && decide (2 ^ k < 10 ^ dK k) && decide (cK k < T8) && decide (cK k * 2 ^ k = 10 ^ N9 * 10 ^ dK k) &&
  decide ((cheat k).2.length ≤ 60) && decide (0 < (cheat k).2.length) && ((List.range 60).all fun j => decide (j < (cheat k).2.length → ((cheat k).2.getD j 0).toNat = 48 + dgt (cK k) j)) && decide (dgt (cK k) ((cheat k).2.length - 1) ≠ 0) &&
  decide (cK k = pre (cK k) (cheat k).2.length * 10 ^ (N8 - (cheat k).2.length))
theorem chk_all : ((List.range 61).all fun k => k == 0 || chk k) = true := by decide +kernel
theorem cheat_ok {k : Nat} (h1 : 1 ≤ k) (h2 : k ≤ 60) : CheatOk k := by
  have h := List.all_eq_true.1 chk_all k (List.mem_range.2 (by omega))
  have hk : (k == 0) = false := by simp; omega
  rw [hk, Bool.false_or] at h
  unfold chk at h
  simp only [Bool.and_eq_true, decide_eq_true_eq] at h
  obtain ⟨⟨⟨⟨⟨⟨⟨⟨⟨⟨⟨a1, a2⟩, a3⟩, a4⟩, a5⟩, a6⟩, a7⟩, a8⟩, a9⟩, a10⟩, a11⟩, a12⟩ := h
  exact ⟨a1, a2, a3, a4, a5, a6, a7, a8, a9, fun j hj => of_decide_eq_true (List.all_eq_true.1 a10 j (List.mem_range.2 hj)), a11, a12⟩

/-- by how many places the left shift moves the point -/
def dl (V k : Nat) : Nat := if V < cK k then dK k - 1 else dK k
def lV (V k : Nat) : Nat := V * 2 ^ k / 10 ^ dl V k
/-- digit i behind a left shift, beyond 800 too -/
def lD (V k i : Nat) : Nat := V * 2 ^ k * 10 ^ (i + 1) / (T8 * 10 ^ dl V k) % 10
def lT (V k : Nat) : Bool := (List.range 100).any fun i => decide (lD V k (N8 + i) ≠ 0)

theorem dl_le {V k : Nat} (h1 : 1 ≤ k) (h2 : k ≤ 60) : dl V k ≤ 19 := by
  have := (cheat_ok h1 h2).d20
  unfold dl; split <;> omega
theorem lV_aux {V k : Nat} (h : Big V) (h1 : 1 ≤ k) (h2 : k ≤ 60) : 10 ^ N9 * 10 ^ dl V k ≤ V * 2 ^ k ∧ V * 2 ^ k < T8 * 10 ^ dl V k := by
  have H := cheat_ok h1 h2
  have hp := Nat.two_pow_pos k
  have e8 := T8_nine
  have a1 := h.1
  have a2 := h.2
  unfold dl
  by_cases hc : V < cK k
  · rw [if_pos hc]
    obtain ⟨m, hm⟩ : ∃ m, dK k = m + 1 := ⟨dK k - 1, by have := H.d1; omega⟩
    have hlo := H.lo
    have hcm := H.cm
    rw [hm] at hcm hlo ⊢
    rw [Nat.add_sub_cancel] at hlo ⊢
    have lt := Nat.mul_lt_mul_of_pos_right hc hp
    rw [hcm] at lt
    generalize 10 ^ N9 = Q at *
    rw [e8] at a1 ⊢
    have a3 : Q ≤ V := Nat.le_of_mul_le_mul_right a1 (by omega)
    refine ⟨Nat.mul_le_mul a3 hlo, ?_⟩
    rw [Nat.pow_succ] at lt
    rw [Nat.mul_assoc, Nat.mul_comm 10]
    exact lt
  · rw [if_neg hc]
    have hge := Nat.mul_le_mul_right (2 ^ k) (Nat.le_of_not_lt hc)
    rw [H.cm] at hge
    refine ⟨hge, ?_⟩
    exact Nat.mul_lt_mul'' a2 H.hi
theorem lV_big {V k : Nat} (h : Big V) (h1 : 1 ≤ k) (h2 : k ≤ 60) : Big (lV V k) := by
  obtain ⟨a1, a2⟩ := lV_aux h h1 h2
  have hp := p10 (dl V k)
  have e8 := T8_nine
  have b1 : 10 ^ N9 ≤ lV V k := by unfold lV; rw [Nat.le_div_iff_mul_le hp]; exact a1
  have b2 : lV V k < T8 := by unfold lV; rw [Nat.div_lt_iff_lt_mul hp]; exact a2
  refine ⟨?_, b2⟩
  rw [e8]
  exact Nat.mul_le_mul_right _ b1
theorem lV_dgt {V k i : Nat} (hi : i < N8) : dgt (lV V k) i = lD V k i := by
  unfold dgt lD
  congr 1
  unfold pre lV
  rw [T8_eq (i + 1) (by omega), Nat.mul_comm (10 ^ (i + 1)) (10 ^ (N8 - (i + 1))), Nat.mul_div_mul_right _ _ (p10 _), Nat.div_div_eq_div_mul]
  rw [show 10 ^ (N8 - (i + 1)) * 10 ^ (i + 1) * 10 ^ dl V k = 10 ^ dl V k * 10 ^ (N8 - (i + 1)) * 10 ^ (i + 1) by ac_rfl, Nat.mul_div_mul_right _ _ (p10 _)]

/-- what is in hand behind j steps from the right -/
def ln (V nd k j : Nat) : Nat := pre V nd % 10 ^ j * 2 ^ k / 10 ^ j
theorem ln_zero (V nd k : Nat) : ln V nd k 0 = 0 := by unfold ln; rw [Nat.pow_zero, Nat.mod_one, Nat.zero_mul]
theorem ln_lt (V nd k j : Nat) : ln V nd k j < 2 ^ k := by
  unfold ln
  rw [Nat.div_lt_iff_lt_mul (p10 j), Nat.mul_comm (2 ^ k)]
  exact Nat.mul_lt_mul_of_pos_right (Nat.mod_lt _ (p10 j)) (Nat.two_pow_pos k)
theorem ln_step (V nd k j : Nat) : ln V nd k j + pre V nd / 10 ^ j % 10 * 2 ^ k = pre V nd % 10 ^ (j + 1) * 2 ^ k / 10 ^ j := by
  unfold ln
  rw [Nat.pow_succ, Nat.mod_mul, Nat.add_mul, Nat.mul_assoc (10 ^ j), Nat.add_mul_div_left _ _ (p10 j)]
theorem ln_next (V nd k j : Nat) : (ln V nd k j + pre V nd / 10 ^ j % 10 * 2 ^ k) / 10 = ln V nd k (j + 1) := by
  rw [ln_step]
  unfold ln
  rw [Nat.div_div_eq_div_mul, Nat.pow_succ]
theorem ln_dig (V nd k j : Nat) : (ln V nd k j + pre V nd / 10 ^ j % 10 * 2 ^ k) % 10 = pre V nd * 2 ^ k / 10 ^ j % 10 := by
  rw [ln_step]
  have e : pre V nd * 2 ^ k = 10 ^ j * (10 * (pre V nd / 10 ^ (j + 1) * 2 ^ k)) + pre V nd % 10 ^ (j + 1) * 2 ^ k := by
    have := Nat.div_add_mod (pre V nd) (10 ^ (j + 1))
    calc pre V nd * 2 ^ k = (10 ^ (j + 1) * (pre V nd / 10 ^ (j + 1)) + pre V nd % 10 ^ (j + 1)) * 2 ^ k := by rw [this]
      _ = _ := by rw [Nat.add_mul, Nat.pow_succ]; ac_rfl
  rw [e, Nat.mul_add_div (p10 j), Nat.mul_add_mod]
theorem pre_sub {V nd j : Nat} (h : j < nd) : pre V nd / 10 ^ j % 10 = dgt V (nd - 1 - j) := by
  unfold dgt
  have e := pre_div V (nd - j) j
  rw [show nd - j + j = nd by omega] at e
  rw [e, show nd - 1 - j + 1 = nd - j by omega]
theorem pre_over {V nd j : Nat} (hV : V < T8) (h : nd ≤ j) : pre V nd / 10 ^ j % 10 = 0 := by
  rw [Nat.div_eq_of_lt (Nat.lt_of_lt_of_le (pre_lt hV) (Nat.pow_le_pow_right (by omega) h))]
theorem ln_over {V nd k j : Nat} (hV : V < T8) (h : nd ≤ j) : ln V nd k j = pre V nd * 2 ^ k / 10 ^ j := by
  unfold ln
  rw [Nat.mod_eq_of_lt (Nat.lt_of_lt_of_le (pre_lt hV) (Nat.pow_le_pow_right (by omega) h))]

theorem lD_at {V nd k i : Nat} (hn : nd ≤ N8) (ht : ∀ j, nd ≤ j → dgt V j = 0) (hi : i < nd + dl V k) : lD V k i = pre V nd * 2 ^ k / 10 ^ (nd + dl V k - 1 - i) % 10 := by
  unfold lD
  congr 1
  have e := val_tail ht hn
  have eT : T8 * 10 ^ dl V k = 10 ^ (nd + dl V k - 1 - i) * (10 ^ (N8 - nd) * 10 ^ (i + 1)) := by
    unfold T8
    rw [← Nat.pow_add, ← Nat.pow_add, ← Nat.pow_add]
    congr 1; omega
  have e2 : V * 2 ^ k * 10 ^ (i + 1) = pre V nd * 2 ^ k * (10 ^ (N8 - nd) * 10 ^ (i + 1)) := by
    calc V * 2 ^ k * 10 ^ (i + 1) = pre V nd * 10 ^ (N8 - nd) * 2 ^ k * 10 ^ (i + 1) := by rw [← e]
      _ = _ := by ac_rfl
  rw [e2, eT, Nat.mul_div_mul_right _ _ (Nat.mul_pos (p10 _) (p10 _))]
theorem lD_past {V nd k i : Nat} (hn : nd ≤ N8) (ht : ∀ j, nd ≤ j → dgt V j = 0) (hi : nd + dl V k ≤ i) : lD V k i = 0 := by
  unfold lD
  have e := val_tail ht hn
  obtain ⟨m, rfl⟩ : ∃ m, i = nd + dl V k + m := ⟨i - (nd + dl V k), by omega⟩
  have e2 : V * 2 ^ k * 10 ^ (nd + dl V k + m + 1) = pre V nd * 2 ^ k * 10 ^ m * 10 * (T8 * 10 ^ dl V k) := by
    have eT : T8 = 10 ^ nd * 10 ^ (N8 - nd) := T8_eq nd hn
    calc V * 2 ^ k * 10 ^ (nd + dl V k + m + 1) = pre V nd * 10 ^ (N8 - nd) * 2 ^ k * 10 ^ (nd + dl V k + m + 1) := by rw [← e]
      _ = _ := by rw [eT, Nat.pow_succ, Nat.pow_add, Nat.pow_add]; ac_rfl
  rw [e2, Nat.mul_div_cancel _ (Nat.mul_pos T8_pos (p10 _)), Nat.mul_mod_left]
/-- how many digits come out -/
theorem l_len {V nd k : Nat} (h : Big V) (h1 : 1 ≤ k) (h2 : k ≤ 60) (hn : nd ≤ N8) (ht : ∀ j, nd ≤ j → dgt V j = 0) (hn1 : 1 ≤ nd) :
    10 ^ (nd + dl V k - 1) ≤ pre V nd * 2 ^ k ∧ pre V nd * 2 ^ k < 10 ^ (nd + dl V k) := by
  obtain ⟨a1, a2⟩ := lV_aux h h1 h2
  have e := val_tail ht hn
  have e3 : V * 2 ^ k = pre V nd * 2 ^ k * 10 ^ (N8 - nd) := by
    calc V * 2 ^ k = pre V nd * 10 ^ (N8 - nd) * 2 ^ k := by rw [← e]
      _ = _ := by ac_rfl
  rw [e3] at a1 a2
  have hp := p10 (N8 - nd)
  constructor
  · refine Nat.le_of_mul_le_mul_right ?_ hp
    rw [← Nat.pow_add]
    rw [← Nat.pow_add] at a1
    rw [show nd + dl V k - 1 + (N8 - nd) = N9 + dl V k by have := N9_eq; omega]
    exact a1
  · refine Nat.lt_of_mul_lt_mul_right (a := 10 ^ (N8 - nd)) ?_
    rw [← Nat.pow_add]
    unfold T8 at a2
    rw [← Nat.pow_add] at a2
    rw [show nd + dl V k + (N8 - nd) = N8 + dl V k by omega]
    exact a2

theorem any_iff (f : Nat → Bool) (b : Nat) (hb : ∀ i, b ≤ i → f i = false) : (List.range b).any f = true ↔ ∃ i, f i = true := by
  rw [List.any_eq_true]
  constructor
  · rintro ⟨i, _, h⟩; exact ⟨i, h⟩
  · rintro ⟨i, h⟩
    refine ⟨i, List.mem_range.2 (Nat.lt_of_not_le fun hn => ?_), h⟩
    rw [hb i hn] at h; exact absurd h (by simp)
theorem lT_iff {V nd k : Nat} (h1 : 1 ≤ k) (h2 : k ≤ 60) (hn : nd ≤ N8) (ht : ∀ j, nd ≤ j → dgt V j = 0) : lT V k = true ↔ ∃ i, N8 ≤ i ∧ i < nd + dl V k ∧ lD V k i ≠ 0 := by
  unfold lT
  have hd := dl_le (V := V) h1 h2
  rw [any_iff _ 100 (fun i hi => by simp only [decide_eq_false_iff_not, Decidable.not_not]; exact lD_past hn ht (by omega))]
  constructor
  · rintro ⟨i, hi⟩
    have hi := of_decide_eq_true hi
    exact ⟨N8 + i, by omega, Nat.lt_of_not_le fun hle => hi (lD_past hn ht hle), hi⟩
  · rintro ⟨i, a, _, b⟩
    exact ⟨i - N8, decide_eq_true (by rw [show N8 + (i - N8) = i by omega]; exact b)⟩
/-- where nothing is in hand behind J digits -/
theorem rT_iff {V k J : Nat} (hJ : J ≤ N8 + 100) (hz : ∀ i, J ≤ i → rD V k i = 0) : rT V k = true ↔ ∃ i, N8 ≤ i ∧ i < J ∧ rD V k i ≠ 0 := by
  unfold rT
  rw [any_iff _ 100 (fun i hi => by simp only [decide_eq_false_iff_not, Decidable.not_not]; exact hz _ (by omega))]
  constructor
  · rintro ⟨i, hi⟩
    have hi := of_decide_eq_true hi
    exact ⟨N8 + i, by omega, Nat.lt_of_not_le fun hle => hi (hz _ hle), hi⟩
  · rintro ⟨i, a, _, b⟩
    exact ⟨i - N8, decide_eq_true (by rw [show N8 + (i - N8) = i by omega]; exact b)⟩

/-- the cutoff's test -/
theorem cut_nd {V k i nd : Nat} (hV : V < T8) (h1 : 1 ≤ k) (h2 : k ≤ 60) (he : ∀ j, j < i → dgt V j = dgt (cK k) j) (hi : i < (cheat k).2.length) (hn : nd ≤ i) (ht : ∀ j, nd ≤ j → dgt V j = 0) : V < cK k := by
  have H := cheat_ok h1 h2
  refine Nat.lt_of_not_le fun hle => ?_
  have e := pre_eq hV H.ct i he
  obtain ⟨m, hm⟩ : ∃ m, (cheat k).2.length = i + m + 1 := ⟨(cheat k).2.length - i - 1, by omega⟩
  have hl := H.last
  rw [hm, Nat.add_sub_cancel] at hl
  have b1 := pre_mono hle (i + m + 1)
  have b2 : pre V (i + (m + 1)) = pre V i * 10 ^ (m + 1) := pre_tail (fun j hj => ht j (by omega)) _
  have b3 : pre (cK k) i * 10 ^ m ≤ pre (cK k) (i + m) := by
    have := pre_div (cK k) i m
    rw [← this]
    exact Nat.div_mul_le_self _ _
  rw [Nat.add_assoc] at b1
  rw [b2, ← Nat.add_assoc, pre_succ, e, Nat.pow_succ, ← Nat.mul_assoc] at b1
  have : pre (cK k) i * 10 ^ m * 10 ≤ pre (cK k) (i + m) * 10 := Nat.mul_le_mul_right _ b3
  omega
theorem cut_eq {V k : Nat} (hV : V < T8) (h1 : 1 ≤ k) (h2 : k ≤ 60) (he : ∀ j, j < (cheat k).2.length → dgt V j = dgt (cK k) j) : ¬ V < cK k := by
  have H := cheat_ok h1 h2
  have e := pre_eq hV H.ct _ he
  have hl := H.len
  have b := pre_div V (cheat k).2.length (N8 - (cheat k).2.length)
  rw [show (cheat k).2.length + (N8 - (cheat k).2.length) = N8 by have := N8_eq; omega, pre_N8] at b
  have c := H.tail
  rw [← e, ← b] at c
  rw [c]
  exact Nat.not_lt.2 (Nat.div_mul_le_self _ _)
end Go.Proofs.YtblphppdfiipfaaDoor.Dc
namespace Go.Proofs.YtblphppdfiipfaaDoor.Dc

structure St where
  V : Nat
  dp : Int
  tr : Bool
def St.rsh (x : St) (k : Nat) : St := ⟨rV x.V k, x.dp - ((r0 x.V k : Int) - 1), x.tr || rT x.V k⟩
def St.lsh (x : St) (k : Nat) : St := ⟨lV x.V k, x.dp + (dl x.V k : Int), x.tr || lT x.V k⟩
/-- right shifts, 60 places at a time -/
def shr : Nat → Nat → St → St
  | 0, n, x => x.rsh n
  | f + 1, n, x => if 60 < n then shr f (n - 60) (x.rsh 60) else x.rsh n
/-- powers of ten in powers of two -/
def pt : List Nat := [1, 3, 6, 9, 13, 16, 19, 23, 26]
def ptn (d : Nat) : Nat := if 9 ≤ d then 27 else pt.getD d 1
theorem ptn_b (d : Nat) : 1 ≤ ptn d ∧ ptn d ≤ 27 := by
  unfold ptn
  split
  · omega
  · have : ∀ d : Fin 9, 1 ≤ pt.getD d.val 1 ∧ pt.getD d.val 1 ≤ 27 := by decide
    exact this ⟨d, by omega⟩
def lp1 : Nat → St → Int → St × Int
  | 0, x, e => (x, e)
  | f + 1, x, e => if 0 < x.dp then lp1 f (x.rsh (ptn x.dp.toNat)) (e + ptn x.dp.toNat) else (x, e)
/-- is it below one half? -/
def low (x : St) : Bool := decide (x.dp < 0) || (decide (x.dp = 0) && decide (dgt x.V 0 < 5))
def lp2 : Nat → St → Int → St × Int
  | 0, x, e => (x, e)
  | f + 1, x, e => if low x = true then lp2 f (x.lsh (ptn (-x.dp).toNat)) (e - ptn (-x.dp).toNat) else (x, e)
def ms1 (x : St) : Int := x.dp * 10 + dgt x.V 0
def ms2 (x : St) : Int := -x.dp * 10 + 10 - dgt x.V 0

theorem pre1 {V : Nat} (h : Big V) : pre V 1 = dgt V 0 := by
  have e := pre_succ V 0
  rw [pre_zero h.2, Nat.zero_add] at e
  omega
theorem ms1_lt {x : St} {k : Nat} (h : Big x.V) (h1 : 1 ≤ k) (h2 : k ≤ 60) : ms1 (x.rsh k) < ms1 x := by
  obtain ⟨a1, _, a3, _⟩ := r0_spec h h2
  unfold ms1 St.rsh
  simp only
  have d0 := h.dgt0
  by_cases hr : r0 x.V k = 1
  · rw [hr] at a3 ⊢
    rw [rV_dgt h h2 (by have := N8_eq; omega)]
    unfold rD
    rw [hr, Nat.add_zero, pre1 h]
    have h3 : dgt x.V 0 / 2 ^ k ≤ dgt x.V 0 / 2 := by
      refine Nat.div_le_div_left ?_ (by omega)
      calc 2 = 2 ^ 1 := rfl
        _ ≤ 2 ^ k := Nat.pow_le_pow_right (by omega) h1
    have h4 := Nat.mod_le (dgt x.V 0 / 2 ^ k) 10
    omega
  · have := dgt_lt (rV x.V k) 0
    omega
theorem ms2_lt {x : St} {k : Nat} (h : Big x.V) (h1 : 1 ≤ k) (h2 : k ≤ 60) : ms2 (x.lsh k) < ms2 x := by
  unfold ms2 St.lsh
  simp only
  have d0 := h.dgt0
  have d9 := dgt_lt x.V 0
  have hb := lV_big h h1 h2
  by_cases hr : dl x.V k = 0
  · have e : lV x.V k = x.V * 2 ^ k := by unfold lV; rw [hr, Nat.pow_zero, Nat.div_one]
    have h3 : 2 * dgt x.V 0 ≤ dgt (lV x.V k) 0 := by
      rw [← pre1 h, ← pre1 hb, e]
      unfold pre
      rw [Nat.pow_one]
      refine (Nat.le_div_iff_mul_le T8_pos).2 ?_
      have := Nat.div_mul_le_self (x.V * 10) T8
      have h5 : 2 ≤ 2 ^ k := by
        calc 2 = 2 ^ 1 := rfl
          _ ≤ 2 ^ k := Nat.pow_le_pow_right (by omega) h1
      calc 2 * (x.V * 10 / T8) * T8 = 2 * (x.V * 10 / T8 * T8) := by rw [Nat.mul_assoc]
        _ ≤ 2 ^ k * (x.V * 10) := Nat.mul_le_mul h5 this
        _ = x.V * 2 ^ k * 10 := by ac_rfl
    rw [hr]
    omega
  · have := hb.dgt0
    omega
theorem low_pos {x : St} (h : low x = true) : 1 ≤ ms2 x := by
  unfold low at h
  unfold ms2
  have := dgt_lt x.V 0
  simp only [Bool.or_eq_true, Bool.and_eq_true, decide_eq_true_eq] at h
  omega

/-- nothing but noughts from place i on -/
def tz (V i : Nat) : Bool := (List.range 800).all fun j => decide (j < i) || decide (dgt V j = 0)
theorem tz_iff (V i : Nat) : tz V i = true ↔ ∀ j, i ≤ j → dgt V j = 0 := by
  unfold tz
  rw [List.all_eq_true]
  constructor
  · intro h j hj
    by_cases h8 : j < 800
    · have := h j (List.mem_range.2 h8)
      simp only [Bool.or_eq_true, decide_eq_true_eq] at this
      omega
    · exact dgt_ge _ _ (by have := N8_eq; omega)
  · intro h j _
    simp only [Bool.or_eq_true, decide_eq_true_eq]
    by_cases hj : j < i
    · exact .inl hj
    · exact .inr (h j (by omega))
/-- is it rounded up, cut at i digits? -/
def rupN (V : Nat) (tr : Bool) (i : Nat) : Bool :=
  if dgt V i = 5 ∧ tz V (i + 1) = true then tr || (decide (0 < i) && decide (dgt V (i - 1) % 2 ≠ 0)) else decide (5 ≤ dgt V i)
def rup (x : St) : Bool := if x.dp < 0 then false else rupN x.V x.tr x.dp.toNat
/-- 2 to the 64 -/
def Q64 : Nat := 18446744073709551616
theorem Q64_eq : Q64 = 18446744073709551616 := rfl
def rint (x : St) : Nat := if 20 < x.dp then Q64 - 1 else (pre x.V x.dp.toNat + if rup x then 1 else 0) % Q64

/-- the word of a mantissa at a place -/
def wrd (m : Nat) (e : Int) : Nat := m % 2 ^ 52 ||| (e + 1023).toNat * 2 ^ 52
/-- the word behind the loops -/
def fin (x : St) (e : Int) : Nat × Bool :=
  let y : St × Int := if e < -1022 then (shr 2000 (-1022 - e).toNat x, -1022) else (x, e)
  if 1024 ≤ y.2 then (9218868437227405312, true) else
  let m := rint (y.1.lsh 53)
  if m = 9007199254740992 then (if 1023 ≤ y.2 then (9218868437227405312, true) else (wrd 4503599627370496 (y.2 + 1), false))
  else (wrd m (if m / 2 ^ 52 % 2 = 0 then -1023 else y.2), false)
/-- the slow way -/
def slowB (V : Nat) (dp : Int) : Nat × Bool :=
  if 310 < dp then (9218868437227405312, true) else if dp < -330 then (0, false) else
  let a := lp1 3400 ⟨V, dp, false⟩ 0
  let b := lp2 3400 a.1 a.2
  fin b.1 (b.2 - 1)
end Go.Proofs.YtblphppdfiipfaaDoor.Dc
