/- Words of parseFloat64: shifts, products, orders. Conditions: none. -/
import Derived.Test.YtblphppdfiipfaaDoorCKit
import Derived.Test.YtblphppdfiipfaaDoorCShelf
import Derived.Laws.BitsLemmas
import Derived.Deep.RegionWith
import Derived.IntWalk
import Derived.Laws.BitsAllLaws
import Derived.Test.YtblphppdfiipfaaDoorCRound
namespace Go.Proofs.YtblphppdfiipfaaDoor
open Go.RowKit

set_option maxHeartbeats 400000 in
theorem bool2u_any (c : Bool) (w : World) :
    Calls Tryd.prog 63 #[.bool c] w fun e w' => e = .returned (.int .u64 (if c then 1 else 0)) ∧ w' = w := by
  cases c
  all_goals
    go_enter Tryd.func63, Tryd.ntmps63
    go_wp2
    go_ret
    exact ⟨rfl, rfl⟩
set_option maxHeartbeats 400000 in
theorem bool2i_any (c : Bool) (w : World) :
    Calls Tryd.prog 75 #[.bool c] w fun e w' => e = .returned (.int .i64 (if c then 1 else 0)) ∧ w' = w := by
  cases c
  all_goals
    go_enter Tryd.func75, Tryd.ntmps75
    go_wp2
    go_ret
    exact ⟨rfl, rfl⟩

/-- the branches of uscale, in the walk's own words -/
theorem usc_shift {H s : Nat} (hH : H < 2 ^ 64) : IntKind.u64.wrap ((H : Int) / 2 ^ s * 2 ^ s) = ((H / 2 ^ s * 2 ^ s : Nat) : Int) := by
  have h1 : H / 2 ^ s * 2 ^ s ≤ H := Nat.div_mul_le_self H (2 ^ s)
  have e : (H : Int) / 2 ^ s * 2 ^ s = ((H / 2 ^ s * 2 ^ s : Nat) : Int) := by
    rw [Int.natCast_mul, Int.natCast_ediv, Int.natCast_pow]; rfl
  rw [e]
  exact IntWalk.u64_in _ (by omega)
theorem usc_test {H s : Nat} (hH : H < 2 ^ 64) : (IntKind.u64.wrap ((H : Int) / 2 ^ s * 2 ^ s) != (H : Int)) = decide (H % 2 ^ s ≠ 0) := by
  rw [usc_shift hH]
  have h := Nat.div_add_mod H (2 ^ s)
  rw [Nat.mul_comm] at h
  by_cases hz : H % 2 ^ s = 0
  · have : ((H / 2 ^ s * 2 ^ s : Nat) : Int) = H := by omega
    simp [this, hz]
  · have : ((H / 2 ^ s * 2 ^ s : Nat) : Int) ≠ H := by omega
    simp only [bne_iff_ne, ne_eq, this, not_false_eq_true, hz, decide_true]
theorem usc_or {a b : Nat} (ha : a < 2 ^ 64) (hb : b < 2 ^ 64) : Go.bits .or .u64 (a : Int) (b : Int) = ((a ||| b : Nat) : Int) := bits_or_u64_nat a b ha hb
theorem usc_div (H s : Nat) : (H : Int) / 2 ^ s = ((H / 2 ^ s : Nat) : Int) := by rw [Int.natCast_ediv, Int.natCast_pow]; rfl
theorem and63 {s : Nat} (h : s < 64) : Go.bits .and .i64 (s : Int) 63 = s := by
  have : ∀ s : Fin 64, Go.bits .and .i64 ((s.val : Nat) : Int) 63 = ((s.val : Nat) : Int) := by decide
  exact this ⟨s, h⟩

def UscPost (x hi lo s : Nat) (w : World) (e : Ending) (w' : World) : Prop := e = .returned (.int .u64 (Rnd.us x hi lo s : Nat)) ∧ Dr w w'

theorem u64_sub1 {H : Nat} (h1 : 1 ≤ H) (h : H < 2 ^ 64) : IntKind.u64.wrap ((H : Int) - 1) = ((H - 1 : Nat) : Int) := by
  rw [IntWalk.u64_in _ (by omega)]; omega
theorem u64_subs {a b : Nat} (h1 : b ≤ a) (h : a < 2 ^ 64) : IntKind.u64.wrap ((a : Int) - b) = ((a - b : Nat) : Int) := by
  rw [IntWalk.u64_in _ (by omega)]; omega
theorem u64_subw {a b : Nat} (h1 : a < b) (h : b < 2 ^ 64) : IntKind.u64.wrap ((a : Int) - b) = ((a + 2 ^ 64 - b : Nat) : Int) := by
  rw [IntKind.wrap_u64]; omega

set_option maxHeartbeats 1000000 in
theorem usc_any (g x hi lo s : Nat) (w : World) (hx : x < 2 ^ 64) (hhi : hi < 2 ^ 64) (hlo : lo < 2 ^ 64) (hhi1 : 1 ≤ hi) (hs : s < 64)
  (c0 : w.cell? ⟨g, 0, none⟩ = some (.int .u64 hi)) (c1 : w.cell? ⟨g, 1, none⟩ = some (.int .u64 lo)) (c2 : w.cell? ⟨g, 2, none⟩ = some (.int .i64 s)) :
    Calls Tryd.prog 74 #[.int .u64 x, .pointer (some ⟨g, 0, none⟩)] w (UscPost x hi lo s w) := by
  have ha := and63 hs
  obtain ⟨H, hH⟩ : ∃ H, x * hi / 18446744073709551616 = H := ⟨_, rfl⟩
  obtain ⟨M, hM⟩ : ∃ M, x * hi % 18446744073709551616 = M := ⟨_, rfl⟩
  obtain ⟨m2, hm2⟩ : ∃ m2, x * lo / 18446744073709551616 = m2 := ⟨_, rfl⟩
  obtain ⟨l2, hl2⟩ : ∃ l2, x * lo % 18446744073709551616 = l2 := ⟨_, rfl⟩
  have H1 := Lib.hid fun w => Tryd.bits_Mul64 x hi hx hhi w
  have H2 := Lib.hid fun w => Tryd.bits_Mul64 x lo hx hlo w
  rw [hH, hM] at H1
  rw [hm2, hl2] at H2
  have hH64 : H < 2 ^ 64 := by
    rw [← hH]
    exact Nat.div_lt_of_lt_mul (Nat.mul_lt_mul'' hx hhi)
  have hm64 : m2 < 2 ^ 64 := by
    rw [← hm2]
    exact Nat.div_lt_of_lt_mul (Nat.mul_lt_mul'' hx hlo)
  have hH1 : M < m2 → 1 ≤ H := by
    intro h
    refine Nat.pos_of_ne_zero fun h0 => ?_
    have e1 := Nat.div_add_mod (x * hi) 18446744073709551616
    rw [hH, hM, h0] at e1
    have e2 := Nat.div_add_mod (x * lo) 18446744073709551616
    rw [hm2, hl2] at e2
    have e3 : x * lo ≤ x * 18446744073709551615 := Nat.mul_le_mul_left _ (by omega)
    have e4 : x * 1 ≤ x * hi := Nat.mul_le_mul_left _ hhi1
    omega
  have ht := usc_test (s := s) hH64
  have HU : Hid (Rnd.us x hi lo s = if H % 2 ^ s ≠ 0 then H / 2 ^ s ||| 1 else if M < m2 then (H - 1) / 2 ^ s ||| (if 1 < M + 2 ^ 64 - m2 then 1 else 0) else H / 2 ^ s ||| (if 1 < M - m2 then 1 else 0)) := by
    rw [← hH, ← hM, ← hm2]; rfl
  have hM64 : M < 2 ^ 64 := by rw [← hM]; exact Nat.mod_lt _ (by decide)
  have hq : ∀ a, a < 2 ^ 64 → a / 2 ^ s < 2 ^ 64 := fun a h => Nat.lt_of_le_of_lt (Nat.div_le_self _ _) h
  have F := Lib.hid (And.intro hH64 (And.intro hM64 (And.intro hm64 (And.intro hq hH1))))
  clear hx hhi hlo hhi1 hH64 hM64 hm64 hq hH hM hm2 hl2 hH1
  by_cases hz : H % 2 ^ s ≠ 0
  · rw [decide_eq_true hz] at ht
    have HZ := Lib.hid hz; clear hz
    go_enter Tryd.func74, Tryd.ntmps74
    go_wp2_with fail
    refine (H1.out _).mono ?_
    rintro e w1 ⟨rfl, rfl⟩
    go_wp2_with fail
    go_ret
    refine ⟨?_, Dr.refl _⟩
    rw [HU.out, if_pos HZ.out, usc_div]
    exact congrArg (fun v => Ending.returned (.int .u64 v)) (usc_or (F.out.2.2.2.1 _ F.out.1) (by decide))
  · rw [decide_eq_false hz] at ht
    have HZ := Lib.hid hz; clear hz
    by_cases hc : M < m2
    · have hd : decide ((M : Int) < m2) = true := decide_eq_true (by omega)
      have hw1 := u64_sub1 (F.out.2.2.2.2 hc) F.out.1
      have hw2 := u64_subw hc F.out.2.2.1
      obtain ⟨D, hD⟩ : ∃ D, M + 2 ^ 64 - m2 = D := ⟨_, rfl⟩
      rw [hD] at hw2 HU
      have HC := Lib.hid hc; clear hc
      have HD := Lib.hid hD; clear hD
      obtain ⟨E, hE⟩ : ∃ E, H - 1 = E := ⟨_, rfl⟩
      rw [hE] at hw1 HU
      have HE := Lib.hid hE; clear hE
      by_cases hg : 1 < D
      · have hdg : decide ((1 : Int) < D) = true := decide_eq_true (by omega)
        have HGG := Lib.hid hg; clear hg
        go_enter Tryd.func74, Tryd.ntmps74
        go_wp2_with fail
        refine (H1.out _).mono ?_
        rintro e w1 ⟨rfl, rfl⟩
        go_wp2_with fail
        refine (H2.out _).mono ?_
        rintro e w1 ⟨rfl, rfl⟩
        go_wp2_with (go_at_call 63; refine (bool2u_any _ _).mono ?_; rintro e w1 ⟨rfl, rfl⟩)
        go_quiet ((go_at_call 63; exact (bool2u_any _ _).mono fun _ _ h => ⟨h.1, _, h.2⟩))
        go_wp2
        go_ret
        refine ⟨?_, _, rfl⟩
        rw [HU.out, if_neg HZ.out, if_pos HC.out, if_pos HGG.out, usc_div]
        exact congrArg (fun v => Ending.returned (.int .u64 v)) (usc_or (F.out.2.2.2.1 _ (by have := F.out.1; have := HE.out; omega)) (by decide))
      · have hdg : decide ((1 : Int) < D) = false := decide_eq_false (by omega)
        have HGG := Lib.hid hg; clear hg
        go_enter Tryd.func74, Tryd.ntmps74
        go_wp2_with fail
        refine (H1.out _).mono ?_
        rintro e w1 ⟨rfl, rfl⟩
        go_wp2_with fail
        refine (H2.out _).mono ?_
        rintro e w1 ⟨rfl, rfl⟩
        go_wp2_with (go_at_call 63; refine (bool2u_any _ _).mono ?_; rintro e w1 ⟨rfl, rfl⟩)
        go_quiet ((go_at_call 63; exact (bool2u_any _ _).mono fun _ _ h => ⟨h.1, _, h.2⟩))
        go_wp2
        go_ret
        refine ⟨?_, _, rfl⟩
        rw [HU.out, if_neg HZ.out, if_pos HC.out, if_neg HGG.out, usc_div]
        exact congrArg (fun v => Ending.returned (.int .u64 v)) (usc_or (F.out.2.2.2.1 _ (by have := F.out.1; have := HE.out; omega)) (by decide))
    · have hd : decide ((M : Int) < m2) = false := decide_eq_false (by omega)
      have hw0 : IntKind.u64.wrap (H : Int) = H := IntWalk.u64_in _ (by have := F.out.1; omega)
      have hw2 := u64_subs (Nat.le_of_not_lt hc) F.out.2.1
      obtain ⟨D, hD⟩ : ∃ D, M - m2 = D := ⟨_, rfl⟩
      rw [hD] at hw2 HU
      have HC := Lib.hid hc; clear hc
      clear hD
      by_cases hg : 1 < D
      · have hdg : decide ((1 : Int) < D) = true := decide_eq_true (by omega)
        have HGG := Lib.hid hg; clear hg
        go_enter Tryd.func74, Tryd.ntmps74
        go_wp2_with fail
        refine (H1.out _).mono ?_
        rintro e w1 ⟨rfl, rfl⟩
        go_wp2_with fail
        refine (H2.out _).mono ?_
        rintro e w1 ⟨rfl, rfl⟩
        go_wp2_with (go_at_call 63; refine (bool2u_any _ _).mono ?_; rintro e w1 ⟨rfl, rfl⟩)
        go_quiet ((go_at_call 63; exact (bool2u_any _ _).mono fun _ _ h => ⟨h.1, _, h.2⟩))
        go_wp2
        go_ret
        refine ⟨?_, _, rfl⟩
        rw [HU.out, if_neg HZ.out, if_neg HC.out, if_pos HGG.out, usc_div]
        exact congrArg (fun v => Ending.returned (.int .u64 v)) (usc_or (F.out.2.2.2.1 _ F.out.1) (by decide))
      · have hdg : decide ((1 : Int) < D) = false := decide_eq_false (by omega)
        have HGG := Lib.hid hg; clear hg
        go_enter Tryd.func74, Tryd.ntmps74
        go_wp2_with fail
        refine (H1.out _).mono ?_
        rintro e w1 ⟨rfl, rfl⟩
        go_wp2_with fail
        refine (H2.out _).mono ?_
        rintro e w1 ⟨rfl, rfl⟩
        go_wp2_with (go_at_call 63; refine (bool2u_any _ _).mono ?_; rintro e w1 ⟨rfl, rfl⟩)
        go_quiet ((go_at_call 63; exact (bool2u_any _ _).mono fun _ _ h => ⟨h.1, _, h.2⟩))
        go_wp2
        go_ret
        refine ⟨?_, _, rfl⟩
        rw [HU.out, if_neg HZ.out, if_neg HC.out, if_neg HGG.out, usc_div]
        exact congrArg (fun v => Ending.returned (.int .u64 v)) (usc_or (F.out.2.2.2.1 _ F.out.1) (by decide))
end Go.Proofs.YtblphppdfiipfaaDoor
