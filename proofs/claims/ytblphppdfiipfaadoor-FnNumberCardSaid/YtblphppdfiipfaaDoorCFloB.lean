/- parseFloat64 computes the plain rounding. Conditions: none. -/
import Derived.Test.YtblphppdfiipfaaDoorCFloA
import Derived.WalkSmall
import Derived.Laws.Externs
namespace Go.Proofs.YtblphppdfiipfaaDoor
open Go.RowKit

theorem and1 {a : Nat} (ha : a < 2 ^ 64) : Go.bits .and .u64 (a : Int) 1 = ((a % 2 : Nat) : Int) := by
  have := u64_and_nat a 1 (by omega) (by omega)
  rw [show ((1 : Int)) = ((1 : Nat) : Int) from rfl, this, Nat.and_one_is_mod]

def b52 : Nat := 4503599627370496
theorem b52_eq : b52 = 2 ^ 52 := by decide
theorem and_pow (m i : Nat) : m &&& 2 ^ i = m / 2 ^ i % 2 * 2 ^ i := by
  apply Nat.eq_of_testBit_eq
  intro j
  rw [Nat.testBit_and, Nat.testBit_two_pow]
  rcases Nat.mod_two_eq_zero_or_one (m / 2 ^ i) with h | h
  · rw [h, Nat.zero_mul, Nat.zero_testBit]
    by_cases hj : i = j
    · subst hj
      simp [Nat.testBit_eq_decide_div_mod_eq, h]
    · simp [hj]
  · rw [h, Nat.one_mul, Nat.testBit_two_pow]
    by_cases hj : i = j
    · subst hj
      simp [Nat.testBit_eq_decide_div_mod_eq, h]
    · simp [hj]
theorem two_pow_or {r i : Nat} (hr : r < 2 ^ i) : 2 ^ i + r = 2 ^ i ||| r := by
  have := Nat.shiftLeft_add_eq_or_of_lt hr 1
  rwa [Nat.shiftLeft_eq, Nat.one_mul] at this
theorem pk_and {m : Nat} (hm : m < 2 ^ 64) : Go.bits .and .u64 (m : Int) 4503599627370496 = ((m / 2 ^ 52 % 2 * 2 ^ 52 : Nat) : Int) := by
  have := u64_and_nat m 4503599627370496 (by omega) (by omega)
  rw [show ((4503599627370496 : Int)) = ((4503599627370496 : Nat) : Int) from rfl, this, show (4503599627370496 : Nat) = 2 ^ 52 by decide, and_pow]
theorem pk_not {m : Nat} (h1 : 2 ^ 52 ≤ m) (h2 : m < 2 ^ 53) : Go.bits .andNot .u64 (m : Int) 4503599627370496 = ((m - 2 ^ 52 : Nat) : Int) := by
  have := u64_andNot_nat m 4503599627370496 (by omega) (by omega)
  rw [show ((4503599627370496 : Int)) = ((4503599627370496 : Nat) : Int) from rfl, this]
  obtain ⟨r, rfl⟩ := Nat.exists_eq_add_of_le h1
  have hr : r < 2 ^ 52 := by omega
  rw [two_pow_or hr, Nat.and_or_distrib_right]
  have e1 : (2 ^ 52 &&& (18446744073709551615 - 4503599627370496) : Nat) = 0 := by decide
  have e2 : r &&& (2 ^ 52 - 1) = r := by rw [Nat.and_two_pow_sub_one_eq_mod, Nat.mod_eq_of_lt hr]
  have e3 : r &&& (18446744073709551615 - 4503599627370496) = r := by
    conv => lhs; rw [← e2]
    rw [Nat.and_assoc, show ((2 ^ 52 - 1) &&& (18446744073709551615 - 4503599627370496) : Nat) = 2 ^ 52 - 1 by decide, e2]
  rw [e1, e3, Nat.zero_or, ← two_pow_or hr, Nat.add_sub_cancel_left]
theorem pk_or {r k : Nat} (hr : r < 2 ^ 52) (hk : k < 2 ^ 12) : Go.bits .or .u64 (r : Int) ((k : Int) * 4503599627370496) = ((r + k * 2 ^ 52 : Nat) : Int) := by
  have := u64_or_nat r (k * 4503599627370496) (by omega) (by omega)
  rw [show ((k : Int) * 4503599627370496) = ((k * 4503599627370496 : Nat) : Int) by omega, this, Nat.or_comm, show (k * 4503599627370496 : Nat) = k <<< 52 by rw [Nat.shiftLeft_eq], ← Nat.shiftLeft_add_eq_or_of_lt hr, Nat.shiftLeft_eq, Nat.add_comm]
theorem pk_inf {m : Nat} (hm : m < 2 ^ 63) : Go.bits .or .u64 (Go.bits .and .u64 (m : Int) 9223372036854775808) 9218868437227405312 = (Rnd.infR : Nat) := by
  have h1 := u64_and_nat m 9223372036854775808 (by omega) (by omega)
  rw [show ((9223372036854775808 : Int)) = ((9223372036854775808 : Nat) : Int) from rfl, h1, show (9223372036854775808 : Nat) = 2 ^ 63 by decide, and_pow, Nat.div_eq_of_lt hm]
  have h2 := u64_or_nat 0 9218868437227405312 (by omega) (by omega)
  simpa [Rnd.infR_eq] using h2

set_option maxRecDepth 100000
theorem frombits (n : Int) (w : World) : (callFunc 64 #[.int .u64 n]).run Tryd.prog w = .ok (.value (.float .f64 n.toNat)) w :=
  run_callFunc_extern Tryd.func64 (by kernel_rfl) (by kernel_rfl) (by kernel_rfl) (e := Extern.MathFloatBits.float64frombits) (by kernel_rfl) #[.int .u64 n] w

def PackPost (m : Nat) (e : Int) (w : World) (en : Ending) (w' : World) : Prop := (∃ er, en = .returned (.tuple #[.float .f64 (Rnd.pack m e), er]) ∧ (er = .nilIface ∨ er = .iface 77 (.int .i64 1) ∧ Rnd.pack m e = Rnd.infR)) ∧ w' = w

set_option maxHeartbeats 1000000 in
theorem pack_any (m : Nat) (e : Int) (w : World) (hm : m ≤ 2 ^ 53) (he : -1074 ≤ e ∧ e ≤ 10000) :
    Calls Tryd.prog 81 #[.int .u64 m, .int .i64 e] w (PackPost m e w) := by
  have a1 := Lib.hid (pk_and (m := m) (by omega))
  have a2 := Lib.hid (pk_inf (m := m) (by omega))
  have fb := frombits
  have n1 : ¬ (m / 2 ^ 52 % 2 = 0) → 2 ^ 52 ≤ m ∧ m < 2 ^ 53 := fun h => by
    rcases Nat.lt_or_ge m (2 ^ 52) with h1 | h1
    · exact absurd (by rw [Nat.div_eq_of_lt h1]) h
    · refine ⟨h1, Nat.lt_of_le_of_ne hm fun h2 => h (by rw [h2])⟩
  by_cases hb : m / 2 ^ 52 % 2 = 0
  · have g1 : ((Go.bits .and .u64 (m : Int) 4503599627370496) == (0 : Int)) = true := by rw [a1.out, hb]; rfl
    have hp : Rnd.pack m e = m := by unfold Rnd.pack; rw [if_pos hb]
    go_enter Tryd.func81, Tryd.ntmps81
    go_wp2
    go_ret2
    exact ⟨⟨_, by rw [hp]; rfl, Or.inl rfl⟩, rfl⟩
  · obtain ⟨m1, m2⟩ := n1 hb
    have g1 : ((Go.bits .and .u64 (m : Int) 4503599627370496) == (0 : Int)) = false := by
      rw [a1.out, show m / 2 ^ 52 % 2 = 1 by omega]; rfl
    by_cases h9 : 972 ≤ e
    · have hp : Rnd.pack m e = Rnd.infR := by unfold Rnd.pack; rw [if_neg hb, if_pos h9]
      go_enter Tryd.func81, Tryd.ntmps81
      go_wp2
      go_ret2
      exact ⟨⟨_, by rw [hp, a2.out]; rfl, Or.inr ⟨rfl, hp⟩⟩, rfl⟩
    · have h9' : e < 972 := by omega
      obtain ⟨k, hk⟩ : ∃ k : Nat, (k : Int) = 1075 + e := ⟨(1075 + e).toNat, by omega⟩
      have hp : Rnd.pack m e = m - 2 ^ 52 + k * 2 ^ 52 := by unfold Rnd.pack; rw [if_neg hb, if_neg h9, show (1075 + e).toNat = k by omega]
      have a3 := Lib.hid (pk_not m1 m2)
      have a4 := Lib.hid (pk_or (r := m - 2 ^ 52) (k := k) (by omega) (by omega))
      obtain rfl : e = (k : Int) - 1075 := by omega
      clear hk
      have a5 : Hid ((Go.bits .or .u64 (Go.bits .andNot .u64 (m : Int) 4503599627370496) ((1075 + ((k : Int) - 1075)) * 4503599627370496)).toNat = m - 2 ^ 52 + k * 2 ^ 52) :=
        Lib.hid (by rw [a3.out, show (1075 + ((k : Int) - 1075)) = k by omega, a4.out]; rfl)
      go_enter Tryd.func81, Tryd.ntmps81
      go_wp2
      go_ret2
      exact ⟨⟨_, by rw [hp, ← a5.out]; rfl, Or.inl rfl⟩, rfl⟩

theorem l2p_any (p : Int) (w : World) (h : -10000 ≤ p ∧ p ≤ 10000) :
    Calls Tryd.prog 72 #[.int .i64 p] w fun e w' => e = .returned (.int .i64 (Rnd.lpOf p)) ∧ w' = w := by
  have e : Hid (Rnd.lpOf p = p * 108853 / 32768) := rfl
  go_enter Tryd.func72, Tryd.ntmps72
  go_wp2
  go_ret
  exact ⟨by rw [e.out]; rfl, rfl⟩

theorem unmin_any (w : World) :
    Calls Tryd.prog 76 #[.int .u64 9007199254740992] w fun e w' => e = .returned (.int .u64 36028797018963966) ∧ w' = w := by
  go_enter Tryd.func76, Tryd.ntmps76
  go_wp2
  go_ret
  exact ⟨rfl, rfl⟩

theorem rnd_words {u : Nat} (hu : u < 2 ^ 60) : IntKind.u64.wrap ((u : Int) + 1 + Go.bits .and .u64 ((u : Int) / 4) 1) / 4 = (Rnd.rnd4 u : Nat) := by
  have e1 : (u : Int) / 4 = ((u / 4 : Nat) : Int) := by omega
  rw [e1, and1 (by omega), IntWalk.u64_in _ (by omega)]
  unfold Rnd.rnd4
  omega

theorem round_any (u : Nat) (w : World) (hu : u < 2 ^ 60) :
    Calls Tryd.prog 78 #[.int .u64 u] w fun e w' => e = .returned (.int .u64 (Rnd.rnd4 u : Nat)) ∧ w' = w := by
  have e := Lib.hid (rnd_words hu)
  go_enter Tryd.func78, Tryd.ntmps78
  go_wp2
  go_ret
  exact ⟨congrArg (fun v => Ending.returned (.int .u64 v)) e.out, rfl⟩

/-- the table of powers as it is laid -/
def TabE (w : World) : Prop := ∀ (i : Nat) (r : Nat × Nat), Go.Pinned.pow10Rows[i]? = some r → w.cell? ⟨11, i * 2, none⟩ = some (.int .u64 r.1) ∧ w.cell? ⟨11, i * 2 + 1, none⟩ = some (.int .u64 r.2)

set_option maxHeartbeats 1000000 in
theorem prescale_any (g : Nat) (e p lp : Int) (w : World) (i hi lo : Nat) (hp : p + 348 = i) (hi2 : i < 696) (he : -100000 ≤ e ∧ e ≤ 100000) (hlp : -100000 ≤ lp ∧ lp ≤ 100000)
    (t0 : w.cell? ⟨11, i * 2, none⟩ = some (.int .u64 hi)) (t1 : w.cell? ⟨11, i * 2 + 1, none⟩ = some (.int .u64 lo)) (_hg : g ≠ 11)
    (a b c : Value) (hb : w.heap[g]? = some (.cells #[a, b, c] 128 (0, 0))) :
    Calls Tryd.prog 73 #[.pointer (some ⟨g, 0, none⟩), .int .i64 e, .int .i64 p, .int .i64 lp] w fun en w' => en = .returned (.tuple #[]) ∧
      w' = ((w.setCell ⟨g, 0, none⟩ (.int .u64 hi)).setCell ⟨g, 1, none⟩ (.int .u64 lo)).setCell ⟨g, 2, none⟩ (.int .i64 (-(e + lp + 3))) := by
  have c0 : w.cell? ⟨g, 0, none⟩ = some a := by simp [World.cell?, hb]
  have c1 : w.cell? ⟨g, 1, none⟩ = some b := by simp [World.cell?, hb]
  have c2 : w.cell? ⟨g, 2, none⟩ = some c := by simp [World.cell?, hb]
  have f0 : w.frozen? ⟨g, 0, none⟩ = false := by simp [World.frozen?, hb]
  have f1 : w.frozen? ⟨g, 1, none⟩ = false := by simp [World.frozen?, hb]
  have f2 : w.frozen? ⟨g, 2, none⟩ = false := by simp [World.frozen?, hb]
  obtain rfl : p = (i : Int) - 348 := by omega
  have hw : (i : Int) - 348 - -348 = i := by omega
  go_enter Tryd.func73, Tryd.ntmps73
  go_wp2
  go_end0
  exact ⟨rfl, rfl⟩
set_option maxRecDepth 100000

theorem us_lt {x hi lo s : Nat} (hx : x < 2 ^ 64) (hhi : hi < 2 ^ 64) (hs : 8 ≤ s) : Rnd.us x hi lo s < 2 ^ 56 := by
  have hH : x * hi / 2 ^ 64 < 2 ^ 64 := Nat.div_lt_of_lt_mul (Nat.mul_lt_mul'' hx hhi)
  have hq : ∀ a, a < 2 ^ 64 → a / 2 ^ s < 2 ^ 56 := fun a ha => by
    refine Nat.div_lt_of_lt_mul (Nat.lt_of_lt_of_le ha ?_)
    calc 2 ^ 64 = 2 ^ 8 * 2 ^ 56 := by decide
      _ ≤ 2 ^ s * 2 ^ 56 := Nat.mul_le_mul_right _ (Nat.pow_le_pow_right (by omega) hs)
  have h1 : (1 : Nat) < 2 ^ 56 := by decide
  have h0 : (0 : Nat) < 2 ^ 56 := by decide
  unfold Rnd.us
  simp only
  split
  · exact Nat.or_lt_two_pow (hq _ hH) h1
  · split
    · exact Nat.or_lt_two_pow (hq _ (by omega)) (by split <;> assumption)
    · exact Nat.or_lt_two_pow (hq _ hH) (by split <;> assumption)

def PfPost (d : Nat) (p : Int) (w : World) (e : Ending) (w' : World) : Prop :=
  (∃ er, e = .returned (.tuple #[.float .f64 (Rnd.pfF d p), er]) ∧ (er = .nilIface ∨ er = .iface 77 (.int .i64 1) ∧ Rnd.pfF d p = Rnd.infR)) ∧ w.grownBy w' none

theorem bitLenAux_eq : ∀ (f d : Nat), d < 2 ^ f → Lib.bitLenAux f d = Rnd.blen d
  | 0, d, h => by
    have : d = 0 := by omega
    subst this
    rfl
  | f + 1, d, h => by
    unfold Lib.bitLenAux
    by_cases h0 : d = 0
    · subst h0; rfl
    rw [if_neg h0, bitLenAux_eq f (d / 2) (by rw [Nat.pow_succ] at h; omega)]
    unfold Rnd.blen
    rw [if_neg h0]
    by_cases h2 : d / 2 = 0
    · have : d = 1 := by omega
      subst this
      decide
    · rw [if_neg h2, Nat.log2_def d, if_pos (by omega)]
      omega
theorem bitLen_blen {d : Nat} (h : d < 2 ^ 64) : Lib.bitLen d = Rnd.blen d := bitLenAux_eq 64 d h

theorem row_some {p : Int} (h1 : -345 ≤ p) (h2 : p ≤ 310) : Go.Pinned.pow10Rows[(p + 348).toNat]? = some (Rnd.rowAt p) := by
  have hl := Rnd.rows_len
  unfold Rnd.rowAt
  rw [List.getD_eq_getElem?_getD, List.getElem?_eq_getElem (by omega)]
  rfl
theorem lt_of_cell {w : World} {b i : Nat} {v : Value} (h : w.cell? ⟨b, i, none⟩ = some v) : b < w.heap.size := by
  refine Nat.lt_of_not_le fun hn => ?_
  have : w.heap[b]? = none := Array.getElem?_eq_none hn
  simp [World.cell?, this] at h

/-- the words of parseFloat64 behind uscale -/
theorem pf_shl {d b x : Nat} (hd : d * 2 ^ (64 - b) = x) (hx : x < 2 ^ 64) : IntKind.u64.wrap ((d : Int) * 2 ^ (64 - b)) = x := by
  rw [show (d : Int) * 2 ^ (64 - b) = ((d * 2 ^ (64 - b) : Nat) : Int) by rw [Int.natCast_mul, Int.natCast_pow]; rfl, hd]
  exact IntWalk.u64_in _ (by omega)

def Aw (w : World) (hi lo : Nat) (s : Int) : World := w.alloc (.cells #[.int .u64 hi, .int .u64 lo, .int .i64 s] 128)
theorem Aw_grown (w : World) (hi lo : Nat) (s : Int) : w.grownBy (Aw w hi lo s) none := World.grownBy_alloc _ _ _
theorem Aw_c0 (w : World) (hi lo : Nat) (s : Int) : (Aw w hi lo s).cell? ⟨w.heap.size, 0, none⟩ = some (.int .u64 hi) := by unfold Aw; rw [World.cell?_alloc_at _ _ _ _ rfl]; rfl
theorem Aw_c1 (w : World) (hi lo : Nat) (s : Int) : (Aw w hi lo s).cell? ⟨w.heap.size, 1, none⟩ = some (.int .u64 lo) := by unfold Aw; rw [World.cell?_alloc_at _ _ _ _ rfl]; rfl
theorem Aw_c2 (w : World) (hi lo : Nat) (s : Int) : (Aw w hi lo s).cell? ⟨w.heap.size, 2, none⟩ = some (.int .i64 s) := by unfold Aw; rw [World.cell?_alloc_at _ _ _ _ rfl]; rfl

theorem prescale_new (e lp : Int) (w : World) (i hi lo : Nat) (hi2 : i < 696) (he : -100000 ≤ e ∧ e ≤ 100000) (hlp : -100000 ≤ lp ∧ lp ≤ 100000)
    (h11 : 11 < w.heap.size) (t0 : w.cell? ⟨11, i * 2, none⟩ = some (.int .u64 hi)) (t1 : w.cell? ⟨11, i * 2 + 1, none⟩ = some (.int .u64 lo)) (s : Int) (hs : -(e + lp + 3) = s) :
    Calls Tryd.prog 73 #[.pointer (some ⟨w.heap.size, 0, none⟩), .int .i64 e, .int .i64 ((i : Int) - 348), .int .i64 lp] (w.alloc (.cells #[.int .u64 0, .int .u64 0, .int .i64 0] 128)) fun en w' => en = .returned (.tuple #[]) ∧
      w' = Aw w hi lo s := by
  refine (prescale_any w.heap.size e ((i : Int) - 348) lp _ i hi lo (by omega) hi2 he hlp ?_ ?_ (by omega) (.int .u64 0) (.int .u64 0) (.int .i64 0) ?_).mono ?_
  · rw [World.cell?_alloc_past _ _ _ h11]; exact t0
  · rw [World.cell?_alloc_past _ _ _ h11]; exact t1
  · exact heap_alloc_new _ _
  · rintro e w' ⟨rfl, rfl⟩
    refine ⟨rfl, ?_⟩
    subst hs
    rw [World.setCell_alloc_at _ _ _ _ _ rfl, World.setCell_alloc_at _ _ _ _ _ rfl, World.setCell_alloc_at _ _ _ _ _ rfl]
    rfl

theorem or_mod2 (u : Nat) : (u ||| u % 2) = u := by
  rcases Nat.mod_two_eq_zero_or_one u with h | h
  · rw [h, Nat.or_zero]
  · rw [h, Rnd.or_one]; omega

set_option maxHeartbeats 2000000 in
theorem parse_any (d : Nat) (p : Int) (w : World) (T : TabE w) (h0 : d ≠ 0) (hd : d < 2 ^ 64) (h1 : -345 ≤ p) (h2 : p ≤ 310) :
    Calls Tryd.prog 66 #[.int .u64 d, .int .i64 p, .int .u64 0] w (PfPost d p w) := by
  obtain ⟨b, hb⟩ : ∃ b, Rnd.blen d = b := ⟨_, rfl⟩
  have cl := Lib.hid fun w => Tryd.bits_Len64 d w (by omega) (by omega)
  rw [Int.toNat_natCast, bitLen_blen hd, hb] at cl
  have hb1 : 1 ≤ b ∧ b ≤ 64 := by
    have := (Nat.log2_lt (n := d) (k := 64) h0).2 hd
    rw [← hb, Rnd.blen, if_neg h0]
    omega
  obtain ⟨lp, hlp⟩ : ∃ lp, Rnd.lpOf p = lp := ⟨_, rfl⟩
  have c2 := Lib.hid fun w => l2p_any p w ⟨by omega, by omega⟩
  rw [hlp] at c2
  have hlpb : -1200 ≤ lp ∧ lp ≤ 1200 := by rw [← hlp]; unfold Rnd.lpOf; omega
  have R := Rnd.row_ok p h1 h2 _ (row_some h1 h2)
  obtain ⟨t0, t1⟩ := T _ _ (row_some h1 h2)
  obtain ⟨hi, hhi⟩ : ∃ hi, (Rnd.rowAt p).1 = hi := ⟨_, rfl⟩
  obtain ⟨lo, hlo⟩ : ∃ lo, (Rnd.rowAt p).2 = lo := ⟨_, rfl⟩
  have HP : Hid (Rnd.pfF d p = Rnd.pfm d b lp hi lo) := Lib.hid (by rw [← hb, ← hlp, ← hhi, ← hlo]; rfl)
  rw [hhi, hlo] at R
  rw [hhi] at t0
  rw [hlo] at t1
  have hx2 : d * 2 ^ (64 - b) < 2 ^ 64 := by
    have e1 : d < 2 ^ b := by rw [← hb, Rnd.blen, if_neg h0]; exact Nat.lt_log2_self
    have := Nat.mul_lt_mul_of_pos_right e1 (Nat.two_pow_pos (64 - b))
    rw [Rnd.pow_split b (64 - b) 64 (by omega)] at this
    omega
  have hi1 : 1 ≤ hi := by
    refine Nat.pos_of_ne_zero fun hz => ?_
    have hlo0 : lo = 0 := by have := R.lohi; rw [hz] at this; omega
    have hc := R.c1
    rw [hz, hlo0] at hc
    have := Nat.mul_pos R.nP0 (Nat.two_pow_pos (127 - Rnd.lpOf p).toNat)
    omega
  have hi64 := R.hi64
  have lo64 := R.lo64
  have h11 := lt_of_cell t0
  clear hb hlp R T hhi hlo
  have fb := frombits
  obtain ⟨i, hi0⟩ : ∃ i : Nat, (i : Int) = p + 348 := ⟨(p + 348).toNat, by omega⟩
  rw [show (p + 348).toNat = i by omega] at t0 t1
  have HPF := Lib.hid (rfl : Rnd.pfF d p = Rnd.pfF d p)
  obtain ⟨R0, hR0⟩ : ∃ R0, Rnd.pfF d p = R0 := ⟨_, rfl⟩
  unfold PfPost
  rw [hR0] at HP ⊢
  clear hR0 HPF
  obtain rfl : p = (i : Int) - 348 := by omega
  clear hi0
  obtain ⟨x, hx⟩ : ∃ x, d * 2 ^ (64 - b) = x := ⟨_, rfl⟩
  have hsh := pf_shl hx (by rw [← hx]; exact hx2)
  rw [hx] at hx2
  obtain ⟨e, he⟩ : ∃ e : Int, e = min 1074 (53 - (b : Int) - lp) := ⟨_, rfl⟩
  have hE : Hid (Rnd.pfm d b lp hi lo = if 64 ≤ 61 - (b : Int) - e - lp then 0 else if 2 ^ 55 - 2 ≤ Rnd.us x hi lo (61 - (b : Int) - e - lp).toNat then Rnd.pack (Rnd.rnd4 (Rnd.us x hi lo (61 - (b : Int) - e - lp).toNat / 2 ||| Rnd.us x hi lo (61 - (b : Int) - e - lp).toNat % 2)) (1 - e) else Rnd.pack (Rnd.rnd4 (Rnd.us x hi lo (61 - (b : Int) - e - lp).toNat)) (-e)) := Lib.hid (by
    rw [← hx, he]; rfl)
  have he1 : e ≤ 1074 := by omega
  have he2 : e ≤ 53 - (b : Int) - lp := by omega
  have he3 : -2000 ≤ e := by omega
  have hpe : min 1074 (53 - (b : Int) - lp) = e := he.symm
  clear he
  clear hx
  obtain ⟨s, hs0⟩ : ∃ s : Int, 61 - (b : Int) - e - lp = s := ⟨_, rfl⟩
  rw [hs0] at hE
  have hs8 : 8 ≤ s := by omega
  have e1 : -(e - (64 - (b : Int)) + lp + 3) = s := by omega
  have C3 := Lib.hid fun w (q0 : 11 < w.heap.size) (q1 : w.cell? ⟨11, i * 2, none⟩ = some (.int .u64 hi)) (q2 : w.cell? ⟨11, i * 2 + 1, none⟩ = some (.int .u64 lo)) => prescale_new (e - (64 - (b : Int))) lp w i hi lo (by omega) (by omega) (by omega) q0 q1 q2 s e1
  by_cases hs : 64 ≤ s
  · have hR : Hid (R0 = 0) := Lib.hid (by rw [HP.out, hE.out, if_pos hs])
    have hsd : decide (s ≥ 64) = true := decide_eq_true hs
    go_enter Tryd.func66, Tryd.ntmps66
    go_wp2_with fail
    refine (cl.out _).mono ?_
    rintro en w1 ⟨rfl, rfl⟩
    go_wp2_with fail
    refine (c2.out _).mono ?_
    rintro en w1 ⟨rfl, rfl⟩
    go_wp2_with fail
    refine (C3.out _ h11 t0 t1).mono ?_
    rintro en w2 ⟨rfl, rfl⟩
    have a2 := Aw_c2 w1 hi lo s
    have ag := Lib.hid (Aw_grown w1 hi lo s)
    generalize Aw w1 hi lo s = W at *
    go_wp2
    go_ret2
    exact ⟨⟨_, by rw [hR.out]; rfl, Or.inl rfl⟩, ag.out⟩
  · obtain ⟨k, rfl⟩ : ∃ k : Nat, s = (k : Int) := ⟨s.toNat, by omega⟩
    rw [Int.toNat_natCast] at hE
    have hsd : decide ((k : Int) ≥ 64) = false := decide_eq_false hs
    have hu := us_lt (x := x) (hi := hi) (lo := lo) (s := k) hx2 hi64 (by omega)
    have C4 := Lib.hid fun g W q0 q1 q2 => usc_any g x hi lo k W hx2 hi64 lo64 hi1 (by omega) q0 q1 q2
    unfold UscPost at C4
    obtain ⟨u, hu0⟩ : ∃ u, Rnd.us x hi lo k = u := ⟨_, rfl⟩
    rw [hu0] at hE hu C4
    clear hu0 hi64 lo64 hi1
    have hu1 := and1 (a := u) (by omega)
    by_cases hc : 2 ^ 55 - 2 ≤ u
    · have hcd : decide ((u : Int) ≥ 36028797018963966) = true := decide_eq_true (by omega)
      obtain ⟨v, hv⟩ : ∃ v, (u / 2 ||| u % 2) = v := ⟨_, rfl⟩
      have hR : Hid (R0 = Rnd.pack (Rnd.rnd4 v) (-(e - 1))) := Lib.hid (by rw [HP.out, hE.out, if_neg hs, if_pos hc, hv, show (1 - e) = -(e - 1) by omega])
      have hv1 : Go.bits .or .u64 ((u : Int) / 2) ((u : Int) % 2) = (v : Nat) := by
        rw [show (u : Int) / 2 = ((u / 2 : Nat) : Int) by omega, show (u : Int) % 2 = ((u % 2 : Nat) : Int) by omega, usc_or (by omega) (by omega), hv]
      have hv2 : v < 2 ^ 55 := by
        rw [← hv]; exact Nat.or_lt_two_pow (by omega) (by omega)
      have C5 := Lib.hid fun W => round_any v W (by omega)
      obtain ⟨m, hm⟩ : ∃ m, Rnd.rnd4 v = m := ⟨_, rfl⟩
      rw [hm] at C5 hR
      have hm2 : m ≤ 2 ^ 53 := by
        rw [← hm]; unfold Rnd.rnd4; omega
      have C6 := Lib.hid fun W => pack_any m (-(e - 1)) W hm2 (by omega)
      have o1 : Go.bits .or .u64 0 (m : Int) = (m : Nat) := by
        have o1 := usc_or (a := 0) (b := m) (by omega) (by omega)
        rw [Nat.zero_or] at o1
        exact o1
      clear hv hm
      go_enter Tryd.func66, Tryd.ntmps66
      go_wp2_with fail
      refine (cl.out _).mono ?_
      rintro en w1 ⟨rfl, rfl⟩
      go_wp2_with fail
      refine (c2.out _).mono ?_
      rintro en w1 ⟨rfl, rfl⟩
      go_wp2_with fail
      refine (C3.out _ h11 t0 t1).mono ?_
      rintro en w2 ⟨rfl, rfl⟩
      have a0 := Aw_c0 w1 hi lo k
      have a1 := Aw_c1 w1 hi lo k
      have a2 := Aw_c2 w1 hi lo k
      have ag := Lib.hid (Aw_grown w1 hi lo k)
      generalize Aw w1 hi lo k = W at *
      go_wp2_with fail
      refine (C4.out _ _ a0 a1 a2).mono ?_
      rintro en w2 ⟨rfl, n, rfl⟩
      go_wp2_with fail
      refine (unmin_any _).mono ?_
      rintro en w2 ⟨rfl, rfl⟩
      go_wp2_with fail
      refine (bool2i_any _ _).mono ?_
      rintro en w2 ⟨rfl, rfl⟩
      go_wp2_with fail
      refine (C5.out _).mono ?_
      rintro en w2 ⟨rfl, rfl⟩
      go_wp2_with fail
      refine (C6.out _).mono ?_
      rintro en w2 ⟨⟨er, rfl, her⟩, rfl⟩
      go_wp2
      go_ret2
      refine ⟨⟨er, by rw [hR.out]; rfl, by rw [hR.out]; exact her⟩, gb_drewN (by exact ag.out) _⟩
    · have hcd : decide ((u : Int) ≥ 36028797018963966) = false := decide_eq_false (by omega)
      have hR : Hid (R0 = Rnd.pack (Rnd.rnd4 u) (-e)) := Lib.hid (by rw [HP.out, hE.out, if_neg hs, if_neg hc])
      have hv1 : Go.bits .or .u64 (u : Int) ((u : Int) % 2) = (u : Nat) := by
        rw [show (u : Int) % 2 = ((u % 2 : Nat) : Int) by omega, usc_or (by omega) (by omega), or_mod2]
      have C5 := Lib.hid fun W => round_any u W (by omega)
      obtain ⟨m, hm⟩ : ∃ m, Rnd.rnd4 u = m := ⟨_, rfl⟩
      rw [hm] at C5 hR
      have hm2 : m ≤ 2 ^ 53 := by
        rw [← hm]; unfold Rnd.rnd4; omega
      have C6 := Lib.hid fun W => pack_any m (-e) W hm2 (by omega)
      have o1 : Go.bits .or .u64 0 (m : Int) = (m : Nat) := by
        have o1 := usc_or (a := 0) (b := m) (by omega) (by omega)
        rw [Nat.zero_or] at o1
        exact o1
      clear hm
      go_enter Tryd.func66, Tryd.ntmps66
      go_wp2_with fail
      refine (cl.out _).mono ?_
      rintro en w1 ⟨rfl, rfl⟩
      go_wp2_with fail
      refine (c2.out _).mono ?_
      rintro en w1 ⟨rfl, rfl⟩
      go_wp2_with fail
      refine (C3.out _ h11 t0 t1).mono ?_
      rintro en w2 ⟨rfl, rfl⟩
      have a0 := Aw_c0 w1 hi lo k
      have a1 := Aw_c1 w1 hi lo k
      have a2 := Aw_c2 w1 hi lo k
      have ag := Lib.hid (Aw_grown w1 hi lo k)
      generalize Aw w1 hi lo k = W at *
      go_wp2_with fail
      refine (C4.out _ _ a0 a1 a2).mono ?_
      rintro en w2 ⟨rfl, n, rfl⟩
      go_wp2_with fail
      refine (unmin_any _).mono ?_
      rintro en w2 ⟨rfl, rfl⟩
      go_wp2_with fail
      refine (bool2i_any _ _).mono ?_
      rintro en w2 ⟨rfl, rfl⟩
      go_wp2_with fail
      refine (C5.out _).mono ?_
      rintro en w2 ⟨rfl, rfl⟩
      go_wp2_with fail
      refine (C6.out _).mono ?_
      rintro en w2 ⟨⟨er, rfl, her⟩, rfl⟩
      go_wp2
      go_ret2
      refine ⟨⟨er, by rw [hR.out]; rfl, by rw [hR.out]; exact her⟩, gb_drewN (by exact ag.out) _⟩
end Go.Proofs.YtblphppdfiipfaaDoor
