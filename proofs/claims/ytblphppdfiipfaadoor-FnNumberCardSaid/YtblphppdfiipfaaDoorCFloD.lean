/- atof64exact computes the plain exact way. Conditions: none. -/
import Derived.Test.YtblphppdfiipfaaDoorCFloB
import Derived.Laws.FloatArith
namespace Go.Proofs.YtblphppdfiipfaaDoor
open Go.RowKit
set_option maxRecDepth 100000

/-- the small tables that the exact way reads -/
def ExE (w : World) : Prop := w.cell? ⟨7, 0, none⟩ = some (.int .u64 52) ∧ ∃ a cap, w.cell? ⟨10, 0, none⟩ = some (.slice (some a) 23 cap) ∧ ∀ i, i < 23 → w.cell? (a.add i) = some (.float .f64 (Rnd.p10.getD i 0))

theorem floatOfInt_nat (d : Nat) : floatOfInt .f64 (d : Int) = Ieee.double.nearest false d 0 := by
  have h : decide ((d : Int) < 0) = false := decide_eq_false (by omega)
  unfold floatOfInt FloatKind.nearest FloatKind.encode Ieee.Format.write
  simp only [h, Int.natAbs_natCast]
  rfl

theorem read_pos {b : Nat} (hb : b ≤ Rnd.infR) : (∃ m i, Ieee.double.read b = .number false m i) ∨ Ieee.double.read b = .infinity false := by
  rw [Rnd.infR_eq] at hb
  have e1 : Ieee.double.signWeight = 2 ^ 63 := by decide
  have e2 : Ieee.double.infRung = 2047 * 2 ^ 52 := by decide
  have h1 : b / 2 ^ 63 = 0 := Nat.div_eq_of_lt (by omega)
  have h2 : b % 2 ^ 63 = b := Nat.mod_eq_of_lt (by omega)
  unfold Ieee.Format.read
  rw [e1, e2, h1, h2]
  simp only [Nat.zero_mod, Nat.reduceBEq]
  split
  · exact Or.inl ⟨_, _, rfl⟩
  · split
    · exact Or.inl ⟨_, _, rfl⟩
    · split
      · exact Or.inr rfl
      · omega
/-- minus ten to the fifteenth -/
def n15 : Nat := 14054727237768577024
theorem n15_read : Ieee.double.read n15 = .number true 8000000000000000 (-3) := by decide +kernel
theorem not_lt_n15 {b : Nat} (hb : b ≤ Rnd.infR) : (Ieee.double.order b n15 == some .lt) = false := by
  unfold Ieee.Format.order
  rw [n15_read]
  rcases read_pos hb with ⟨m, i, h⟩ | h
  · rw [h]
    simp only [Ieee.Datum.order]
    have h1 : (Ieee.signed false m (i - min i (-3)).toNat) ≥ 0 := Int.natCast_nonneg _
    have h2 : (Ieee.signed true 8000000000000000 (-3 - min i (-3)).toNat) < 0 := by
      generalize (-3 - min i (-3)).toNat = k
      have h3 : 0 < 8000000000000000 <<< k := by rw [Nat.shiftLeft_eq]; exact Nat.mul_pos (by decide) (Nat.two_pow_pos _)
      unfold Ieee.signed
      rw [if_pos rfl]
      omega
    rw [Int.compare_eq_gt.2 (by omega)]
    rfl
  · rw [h]; rfl
def exPostF (d : Nat) (p : Int) (f : Nat) (ok : Bool) : Prop := match Rnd.exF d p with | some r => f = r ∧ ok = true | none => ok = false
def ExPost (d : Nat) (p : Int) (w : World) (e : Ending) (w' : World) : Prop := ∃ f ok, e = .returned (.tuple #[.float .f64 f, .bool ok]) ∧ exPostF d p f ok ∧ w' = w

theorem reads_again {v r : Nat} (hv : v ≠ 0) (hv2 : v < 2 ^ 110) (h : Rnd.IsR v 1 r) (hg : ¬ Ieee.double.order r Rnd.f15 = some .gt) : Rnd.Reads r v := by
  have hlt : v < 2 ^ 53 := Nat.lt_of_not_ge fun hge => hg (Rnd.gt_of_big h hge hv2)
  have hfe : r = Ieee.double.nearest false v 0 := Rnd.IsR.unique (by omega) (by omega) rfl h (Rnd.nearest_IsR0 hv)
  have hr2 := Rnd.reads_small hv hlt
  rwa [← hfe] at hr2
theorem IsR_le {n m r : Nat} (h : Rnd.IsR n m r) : r ≤ Rnd.infR := by obtain ⟨q, _, _, h3⟩ := h; rw [h3]; exact Nat.min_le_right _ _

set_option maxHeartbeats 1000000 in
theorem ex_any (d : Nat) (p : Int) (w : World) (T : ExE w) (h0 : d ≠ 0) (hd : d < 2 ^ 64) (h1 : -345 ≤ p) (h2 : p ≤ 310) :
    Calls Tryd.prog 65 #[.int .u64 d, .int .i64 p, .bool false] w (ExPost d p w) := by
  obtain ⟨c7, a, cap, c10, ca⟩ := T
  have HF := Lib.hid (floatOfInt_nat d)
  by_cases hb : 2 ^ 52 ≤ d
  · have hR : Rnd.exF d p = none := by unfold Rnd.exF; rw [if_pos hb]
    have g1 : ((d : Int) / 4503599627370496 != 0) = true := by simp; omega
    go_enter Tryd.func65, Tryd.ntmps65
    go_wp2
    go_ret2
    exact ⟨_, _, rfl, by unfold exPostF; rw [hR], rfl⟩
  · have g1 : ((d : Int) / 4503599627370496 != 0) = false := by simp; omega
    by_cases hp : p = 0
    · subst hp
      have hR : Rnd.exF d 0 = some (Ieee.double.nearest false d 0) := by unfold Rnd.exF; rw [if_neg hb, if_pos rfl]
      go_enter Tryd.func65, Tryd.ntmps65
      go_wp2
      go_ret2
      exact ⟨_, _, rfl, by unfold exPostF; rw [hR]; exact ⟨HF.out, rfl⟩, rfl⟩
    have hr := Rnd.reads_small h0 (show d < 2 ^ 53 by omega)
    obtain ⟨F, hF⟩ : ∃ F, Ieee.double.nearest false d 0 = F := ⟨_, rfl⟩
    rw [hF] at HF hr
    have hF2 : floatOfInt .f64 (d : Int) = F := HF.out
    by_cases hp2 : 0 < p ∧ p ≤ 37
    · by_cases hp3 : 22 < p
      · obtain ⟨P1, hP1⟩ : ∃ P1, Rnd.p10.getD (p - 22).toNat 0 = P1 := ⟨_, rfl⟩
        have cv := ca (p - 22).toNat (by omega)
        have cv2 := ca 22 (by omega)
        rw [hP1] at cv
        obtain ⟨r1, hm1, hi1⟩ := Rnd.mul_IsR hr (hP1 ▸ Rnd.p10_reads (i := (p - 22).toNat) (by omega))
        have hle : r1 ≤ Rnd.infR := by obtain ⟨q, _, _, h3⟩ := hi1; rw [h3]; exact Nat.min_le_right _ _
        have g4 : (FloatKind.f64.format.order r1 14054727237768577024 == some .lt) = false := not_lt_n15 hle
        have M1 := fun w => run_float_arith (P := Tryd.prog) w .mul 22 .f64 F P1 r1 hm1
        have hE : Rnd.exF d p = if Ieee.double.order r1 Rnd.f15 = some .gt then none else Ieee.double.mul r1 (Rnd.p10.getD 22 0) := by
          unfold Rnd.exF
          rw [if_neg hb, if_neg hp, if_pos hp2, if_pos hp3, hF, hP1, hm1]
          rfl
        by_cases ho : Ieee.double.order r1 Rnd.f15 = some .gt
        · have g5 : (FloatKind.f64.format.order r1 4831355200913801216 == some .gt) = true := by
            have := ho
            unfold Rnd.f15 at this
            rw [show FloatKind.f64.format = Ieee.double from rfl, this]; rfl
          rw [if_pos ho] at hE
          go_enter Tryd.func65, Tryd.ntmps65
          go_wp2
          go_ret2
          exact ⟨_, _, rfl, by unfold exPostF; rw [hE], rfl⟩
        · have g5 : (FloatKind.f64.format.order r1 4831355200913801216 == some .gt) = false := by
            have := ho
            unfold Rnd.f15 at this
            rw [show FloatKind.f64.format = Ieee.double from rfl]; simpa using this
          rw [if_neg ho] at hE
          have hv : d * 10 ^ (p - 22).toNat < 2 ^ 110 := by
            have a1 : 10 ^ (p - 22).toNat ≤ 10 ^ 15 := Nat.pow_le_pow_right (by omega) (by omega)
            have a2 : d * 10 ^ (p - 22).toNat ≤ 2 ^ 52 * 10 ^ 15 := Nat.mul_le_mul (by omega) a1
            omega
          have hne : d * 10 ^ (p - 22).toNat ≠ 0 := Nat.mul_ne_zero h0 (Nat.ne_of_gt (Nat.pow_pos (by omega)))
          obtain ⟨r2, hm2, -⟩ := Rnd.mul_IsR (reads_again hne hv hi1 ho) (Rnd.p10_reads (i := 22) (by omega))
          rw [hm2] at hE
          obtain ⟨P2, hP2⟩ : ∃ P2, Rnd.p10.getD 22 0 = P2 := ⟨_, rfl⟩
          rw [hP2] at cv2 hm2
          have M2 := fun w => run_float_arith (P := Tryd.prog) w .mul 22 .f64 r1 P2 r2 hm2
          clear hv hne ho
          have cv3 : w.cell? ⟨a.block, a.off + 22, none⟩ = some (.float .f64 P2) := cv2
          go_enter Tryd.func65, Tryd.ntmps65
          go_wp2
          go_ret2
          exact ⟨_, _, rfl, by unfold exPostF; rw [hE]; exact ⟨rfl, rfl⟩, rfl⟩
      · obtain ⟨P1, hP1⟩ : ∃ P1, Rnd.p10.getD p.toNat 0 = P1 := ⟨_, rfl⟩
        have cv := ca p.toNat (by omega)
        rw [hP1] at cv
        obtain ⟨r1, hm1, hi1⟩ := Rnd.mul_IsR hr (hP1 ▸ Rnd.p10_reads (i := p.toNat) (by omega))
        have hle : F ≤ Rnd.infR := by rw [← hF]; exact IsR_le (Rnd.nearest_IsR0 h0)
        have g4 : (FloatKind.f64.format.order F 14054727237768577024 == some .lt) = false := not_lt_n15 hle
        have M1 := fun w => run_float_arith (P := Tryd.prog) w .mul 22 .f64 F P1 r1 hm1
        have hE : Rnd.exF d p = if Ieee.double.order F Rnd.f15 = some .gt then none else some r1 := by
          unfold Rnd.exF
          rw [if_neg hb, if_neg hp, if_pos hp2, if_neg hp3, hF, hP1, hm1]
        by_cases ho : Ieee.double.order F Rnd.f15 = some .gt
        · have g5 : (FloatKind.f64.format.order F 4831355200913801216 == some .gt) = true := by
            have := ho
            unfold Rnd.f15 at this
            rw [show FloatKind.f64.format = Ieee.double from rfl, this]; rfl
          rw [if_pos ho] at hE
          go_enter Tryd.func65, Tryd.ntmps65
          go_wp2
          go_ret2
          exact ⟨_, _, rfl, by unfold exPostF; rw [hE], rfl⟩
        · have g5 : (FloatKind.f64.format.order F 4831355200913801216 == some .gt) = false := by
            have := ho
            unfold Rnd.f15 at this
            rw [show FloatKind.f64.format = Ieee.double from rfl]; simpa using this
          rw [if_neg ho] at hE
          clear ho
          go_enter Tryd.func65, Tryd.ntmps65
          go_wp2
          go_ret2
          exact ⟨_, _, rfl, by unfold exPostF; rw [hE]; exact ⟨rfl, rfl⟩, rfl⟩
    · by_cases hp3 : p < 0 ∧ -22 ≤ p
      · obtain ⟨P1, hP1⟩ : ∃ P1, Rnd.p10.getD (-p).toNat 0 = P1 := ⟨_, rfl⟩
        have cv := ca (-p).toNat (by omega)
        rw [hP1] at cv
        have h53 : ∀ m e, Ieee.double.read F = .number false m e → m < 2 ^ 53 := by
          obtain ⟨k, hk, hkr⟩ := Rnd.nearest_small h0 (show d < 2 ^ 53 by omega)
          intro m e hme
          rw [← hF, hkr] at hme
          injection hme with _ e1 _
          rw [← e1]
          exact hk
        obtain ⟨r1, hm1, hi1⟩ := Rnd.div_IsR hr h53 (hP1 ▸ Rnd.p10_reads (i := (-p).toNat) (by omega)) (Nat.pow_pos (by omega))
        have M1 := fun w => run_float_arith (P := Tryd.prog) w .quo 22 .f64 F P1 r1 hm1
        have hE : Rnd.exF d p = some r1 := by
          unfold Rnd.exF
          rw [if_neg hb, if_neg hp, if_neg hp2, if_pos hp3, hF, hP1, hm1]
        clear h53
        go_enter Tryd.func65, Tryd.ntmps65
        go_wp2
        go_ret2
        exact ⟨_, _, rfl, by unfold exPostF; rw [hE]; exact ⟨rfl, rfl⟩, rfl⟩
      · have hE : Rnd.exF d p = none := by
          unfold Rnd.exF
          rw [if_neg hb, if_neg hp, if_neg hp2, if_neg hp3]
        go_enter Tryd.func65, Tryd.ntmps65
        go_wp2
        all_goals
          go_ret2
          exact ⟨_, _, rfl, by unfold exPostF; rw [hE], rfl⟩
end Go.Proofs.YtblphppdfiipfaaDoor
