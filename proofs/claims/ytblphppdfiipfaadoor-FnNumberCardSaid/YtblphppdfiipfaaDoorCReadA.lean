/- readFloat at texts without an exponent. Conditions: none. -/
import Derived.Test.YtblphppdfiipfaaDoorCFloE
namespace Go.Proofs.YtblphppdfiipfaaDoor
open Go.RowKit
set_option maxRecDepth 100000
set_option maxHeartbeats 8000000 in
theorem rf_0_0 (s : ByteArray) (q : Nat) (ex : Int) (w : World) (hs : s.size ≤ 100) (hq : q ≤ s.size) (hq0 : 0 < q) (hM : MOk s q) (hE : EK0 s q ex) (c : Nat) (h0 : 0 < s.size) (hcc : s[0].toNat = c) (hx : decide ((2 : Int) < s.size) = false) :
    Calls Tryd.prog 55 #[.string s] w (RfPost s (mst s q).m (rfE (mst s q) ex) (mst s q).tr w) := by
  have hc := hM.1 0 hq0
  rw [bt_eq h0, hcc] at hc
  have e1 : ((c : Int) == 43) = false := by simp; omega
  have e2 : ((c : Int) == 45) = false := by simp; omega
  have hge : decide ((0 : Int) ≥ s.size) = false := decide_eq_false (by omega)
  have hem : decide (s = ByteArray.empty) = false := decide_eq_false (by rintro rfl; exact absurd h0 (by decide))
  have hM := Lib.hid hM
  have hE := Lib.hid hE
  have hem2 : (s = ByteArray.empty) = False := by simpa using hem
  clear hc
  obtain ⟨RV, hRV⟩ : ∃ RV, rfE (mst s q) ex = RV := ⟨_, rfl⟩
  obtain ⟨RM, hRM⟩ : ∃ RM, (mst s q).m = RM := ⟨_, rfl⟩
  obtain ⟨RT, hRT⟩ : ∃ RT, (mst s q).tr = RT := ⟨_, rfl⟩
  rw [hRV, hRM, hRT]
  have HRV := Lib.hid hRV
  have HRM := Lib.hid hRM
  have HRT := Lib.hid hRT
  clear hRV hRM hRT
  have h21 := hx
  clear hx
  go_enter Tryd.func55, Tryd.ntmps55
  go_wp2
  go_step3
  go_wp2
  go_step3
  go_wp2
  rename_i K aK
  have REST : ∀ u, K (F55 s q (mst s q).m (mst s q).nd (mst s q).k (mst s q).dp (mst s q).dot (mst s q).dig (mst s q).tr u) w := by
    intro u
    have hdig := hM.out.2.2
    have hB := mst_b s q hM.out.1
    have HRV2 := HRV.out
    have HRM2 := HRM.out
    have HRT2 := HRT.out
    rw [F55_lit]
    refine aK _ _ ?_
    generalize mst s q = x at *
    obtain ⟨m, nd, k, dp, dot, dig, tr⟩ := x
    simp only at hdig hB HRM2 HRT2 ⊢
    subst hdig
    subst HRM2
    subst HRT2
    obtain ⟨dp0, hdp0⟩ : ∃ dp0 : Int, (if dot then dp else nd) = dp0 := ⟨_, rfl⟩
    have hRV : RV = if m = 0 then 0 else dp0 + ex - k := by rw [← HRV2, ← hdp0]; rfl
    have HRV3 := Lib.hid hRV
    have b1 : m < 10 ^ k := hB.1
    have b2 : k ≤ 19 := hB.2.1
    have b3 : nd ≤ 100 := by have := hB.2.2.1; simp only at this; omega
    have b4 : -100 ≤ dp := by have := hB.2.2.2.1; simp only at this; omega
    have b5 : dp ≤ 100 := by have := hB.2.2.2.2; simp only at this; omega
    have HE := Lib.hid hE.out
    clear hB aK HRV2 hRV HRV e1 e2 hge hem h21 hem2 hM hE
    obtain ⟨hqe, hex⟩ := HE.out
    · have hq1 : decide ((q : Int) < s.size) = false := decide_eq_false (by omega)
      by_cases hm0 : m = 0
      · have hmd : ((m : Int) != 0) = false := by simp [hm0]
        have HM0 := Lib.hid hm0
        clear hm0
        cases dot
        all_goals
          go_wp2
          refine bodyPost_ret (results_tmp7 rfl _ _ _) rfl ?_
          refine ⟨?_, rfl⟩
          rw [HRV3.out, if_pos HM0.out]
          rfl
      · have hmd : ((m : Int) != 0) = true := by simp [hm0]
        have HM0 := Lib.hid hm0
        clear hm0
        cases dot
        all_goals
          go_wp2
          refine bodyPost_ret (results_tmp7 rfl _ _ _) rfl ?_
          refine ⟨?_, rfl⟩
          rw [HRV3.out, if_neg HM0.out, hex, ← hdp0, Int.add_zero]
          rfl
  have RS := Lib.hid REST
  clear REST aK
  refine wp_loop_x (fun (x : Nat) => F55 s x (mst s x).m (mst s x).nd (mst s x).k (mst s x).dp (mst s x).dot (mst s x).dig (mst s x).tr) (fun n x w' => n = q - x ∧ x ≤ q ∧ w' = w) q 0 ⟨rfl, Nat.zero_le _, rfl⟩ (F55_at _ _ _ _ _ _ _ _ _ rfl ⟨rfl, rfl, rfl, rfl, rfl, rfl, rfl, rfl, rfl, rfl, rfl, rfl, rfl, rfl, rfl, rfl, rfl, trivial⟩) ?_
  intro n i u wr hrel K2 hK2
  obtain ⟨hn, hi, rfl⟩ := hrel
  have HK := Lib.hid hK2; clear hK2
  clear e1 e2 hge hem h21 hem2
  rw [F55_lit]
  by_cases hiq : i = q
  · subst hiq
    obtain ⟨hqe, -⟩ := hE.out
    · have hq1 : decide ((i : Int) < s.size) = false := decide_eq_false (by omega)
      generalize hx : mst s i = x at *
      obtain ⟨m, nd, k, dp, dot, dig, tr⟩ := x
      simp only at RS ⊢
      subst hqe
      go_wp2
      exact Eq.mp (congrArg (fun a => K a _) (F55_at _ _ _ _ _ _ _ _ _ rfl ⟨rfl, rfl, rfl, rfl, rfl, rfl, rfl, rfl, rfl, rfl, rfl, rfl, rfl, rfl, rfl, rfl, rfl, trivial⟩)) (RS.out _)
  · have hlt : i < s.size := by omega
    have hB := mst_b s i fun j hj => hM.out.1 j (by omega)
    have hS : mst s (i + 1) = (mst s i).step (bt s i) := rfl
    obtain ⟨c, hcc⟩ : ∃ c : Nat, s[i].toNat = c := ⟨_, rfl⟩
    have hc := hM.out.1 i (by omega)
    have hd := hM.out.2.1 i (by omega)
    rw [bt_eq hlt, hcc] at hc hS hd
    generalize mst s i = x at *
    obtain ⟨m, nd, k, dp, dot, dig, tr⟩ := x
    simp only at hB hd ⊢
    have b1 : m < 10 ^ k := hB.1
    have b2 : k ≤ 19 := hB.2.1
    have b3 : nd ≤ 100 := by have := hB.2.2.1; simp only at this; omega
    have b4 : -100 ≤ dp := by have := hB.2.2.2.1; simp only at this; omega
    have b5 : dp ≤ 100 := by have := hB.2.2.2.2; simp only at this; omega
    clear hB
    have hltd : decide ((i : Int) < s.size) = true := decide_eq_true (by omega)
    have g95 : ((c : Int) == 95) = false := by simp; omega
    by_cases h46 : c = 46
    · have g46 : ((c : Int) == 46) = true := by simp; omega
      have hdot : dot = false := hd h46
      subst hdot
      have hS2 : mst s (i + 1) = ⟨m, nd, k, nd, true, dig, tr⟩ := by rw [hS]; exact if_pos h46
      have HS := Lib.hid hS2
      clear hS hS2 hd hc h46
      go_wp2
      exact HK.out (q - (i + 1)) (i + 1) _ _ (by omega) ⟨rfl, by omega, rfl⟩ (by
        rw [HS.out]
        exact F55_at _ _ _ _ _ _ _ _ _ rfl ⟨rfl, rfl, rfl, rfl, rfl, rfl, rfl, rfl, rfl, rfl, rfl, rfl, rfl, rfl, rfl, rfl, rfl, trivial⟩)
    · have g46 : ((c : Int) == 46) = false := by simp; omega
      have hc' : (48 : Int) ≤ c ∧ (c : Int) ≤ 57 := by omega
      obtain ⟨hc1, hc2⟩ := hc'
      have d1 : decide ((48 : Int) ≤ c) = true := decide_eq_true hc1
      have d2 : decide ((c : Int) ≤ 57) = true := decide_eq_true hc2
      by_cases h48 : c = 48
      · subst h48
        by_cases hn0 : nd = 0
        · subst hn0
          have hS2 : mst s (i + 1) = ⟨m, 0, k, dp - 1, dot, true, tr⟩ := by rw [hS]; rfl
          have HS := Lib.hid hS2
          clear hS hS2 hd hc
          go_wp2
          exact HK.out (q - (i + 1)) (i + 1) _ _ (by omega) ⟨rfl, by omega, rfl⟩ (by
            rw [HS.out]
            exact F55_at _ _ _ _ _ _ _ _ _ rfl ⟨rfl, rfl, rfl, rfl, rfl, rfl, rfl, rfl, rfl, rfl, rfl, rfl, rfl, rfl, rfl, rfl, rfl, trivial⟩)
        · have n0 : ((nd : Int) == 0) = false := by simp; omega
          by_cases hk : k < 19
          · have dk : decide ((k : Int) < 19) = true := decide_eq_true (by omega)
            have hmb : m < 10 ^ 18 := Nat.lt_of_lt_of_le b1 (Nat.pow_le_pow_right (by omega) (by omega))
            have hS2 : mst s (i + 1) = ⟨m * 10, nd + 1, k + 1, dp, dot, true, tr⟩ := by
              rw [hS]
              unfold MS.step
              rw [if_neg (by omega), if_neg (by simp; omega), if_pos (by exact hk)]
              simp
            have HS := Lib.hid hS2
            clear hS hS2 hd hc
            go_wp2
            exact HK.out (q - (i + 1)) (i + 1) _ _ (by omega) ⟨rfl, by omega, rfl⟩ (by
              rw [HS.out]
              exact F55_at _ _ _ _ _ _ _ _ _ rfl ⟨rfl, rfl, rfl, rfl, rfl, rfl, rfl, rfl, rfl, rfl, rfl, rfl, rfl, rfl, rfl, rfl, rfl, trivial⟩)
          · have dk : decide ((k : Int) < 19) = false := decide_eq_false (by omega)
            have hS2 : mst s (i + 1) = ⟨m, nd + 1, k, dp, dot, true, tr⟩ := by
              rw [hS]
              unfold MS.step
              rw [if_neg (by omega), if_neg (by simp; omega), if_neg (by exact hk)]
              rfl
            have HS := Lib.hid hS2
            clear hS hS2 hd hc
            go_wp2
            exact HK.out (q - (i + 1)) (i + 1) _ _ (by omega) ⟨rfl, by omega, rfl⟩ (by
              rw [HS.out]
              exact F55_at _ _ _ _ _ _ _ _ _ rfl ⟨rfl, rfl, rfl, rfl, rfl, rfl, rfl, rfl, rfl, rfl, rfl, rfl, rfl, rfl, rfl, rfl, rfl, trivial⟩)
      · have n48 : ((c : Int) == 48) = false := by simp; omega
        have n48b : ((c : Int) != 48) = true := by simp; omega
        by_cases hk : k < 19
        · have dk : decide ((k : Int) < 19) = true := decide_eq_true (by omega)
          have hmb : m < 10 ^ 18 := Nat.lt_of_lt_of_le b1 (Nat.pow_le_pow_right (by omega) (by omega))
          have hS2 : mst s (i + 1) = ⟨m * 10 + (c - 48), nd + 1, k + 1, dp, dot, true, tr⟩ := by
            rw [hS]
            unfold MS.step
            rw [if_neg (by omega), if_neg (by omega), if_pos (by exact hk)]
          have HS := Lib.hid hS2
          have HV : Hid ((m : Int) * 10 + ((c : Int) - 48) = ((m * 10 + (c - 48) : Nat) : Int)) := Lib.hid (by omega)
          clear hS hS2 hd hc
          go_wp2
          rw [HV.out]
          exact HK.out (q - (i + 1)) (i + 1) _ _ (by omega) ⟨rfl, by omega, rfl⟩ (by
            rw [HS.out]
            exact F55_at _ _ _ _ _ _ _ _ _ rfl ⟨rfl, rfl, rfl, rfl, rfl, rfl, rfl, rfl, rfl, rfl, rfl, rfl, rfl, rfl, rfl, rfl, rfl, trivial⟩)
        · have dk : decide ((k : Int) < 19) = false := decide_eq_false (by omega)
          have hS2 : mst s (i + 1) = ⟨m, nd + 1, k, dp, dot, true, true⟩ := by
            rw [hS]
            unfold MS.step
            rw [if_neg (by omega), if_neg (by omega), if_neg (by exact hk), if_neg (by omega)]
          have HS := Lib.hid hS2
          clear hS hS2 hd hc
          go_wp2
          exact HK.out (q - (i + 1)) (i + 1) _ _ (by omega) ⟨rfl, by omega, rfl⟩ (by
            rw [HS.out]
            exact F55_at _ _ _ _ _ _ _ _ _ rfl ⟨rfl, rfl, rfl, rfl, rfl, rfl, rfl, rfl, rfl, rfl, rfl, rfl, rfl, rfl, rfl, rfl, rfl, trivial⟩)

set_option maxRecDepth 100000
set_option maxHeartbeats 8000000 in
theorem rf_1_0 (s : ByteArray) (q : Nat) (ex : Int) (w : World) (hs : s.size ≤ 100) (hq : q ≤ s.size) (hq0 : 0 < q) (hM : MOk s q) (hE : EK0 s q ex) (c : Nat) (h0 : 0 < s.size) (hcc : s[0].toNat = c) (hx : decide ((2 : Int) < s.size) = true ∧ ((c : Int) == 48) = false) :
    Calls Tryd.prog 55 #[.string s] w (RfPost s (mst s q).m (rfE (mst s q) ex) (mst s q).tr w) := by
  have hc := hM.1 0 hq0
  rw [bt_eq h0, hcc] at hc
  have e1 : ((c : Int) == 43) = false := by simp; omega
  have e2 : ((c : Int) == 45) = false := by simp; omega
  have hge : decide ((0 : Int) ≥ s.size) = false := decide_eq_false (by omega)
  have hem : decide (s = ByteArray.empty) = false := decide_eq_false (by rintro rfl; exact absurd h0 (by decide))
  have hM := Lib.hid hM
  have hE := Lib.hid hE
  have hem2 : (s = ByteArray.empty) = False := by simpa using hem
  clear hc
  obtain ⟨RV, hRV⟩ : ∃ RV, rfE (mst s q) ex = RV := ⟨_, rfl⟩
  obtain ⟨RM, hRM⟩ : ∃ RM, (mst s q).m = RM := ⟨_, rfl⟩
  obtain ⟨RT, hRT⟩ : ∃ RT, (mst s q).tr = RT := ⟨_, rfl⟩
  rw [hRV, hRM, hRT]
  have HRV := Lib.hid hRV
  have HRM := Lib.hid hRM
  have HRT := Lib.hid hRT
  clear hRV hRM hRT
  obtain ⟨h21, h48⟩ := hx
  go_enter Tryd.func55, Tryd.ntmps55
  go_wp2
  go_step3
  go_wp2
  go_step3
  go_wp2
  rename_i K aK
  have REST : ∀ u, K (F55 s q (mst s q).m (mst s q).nd (mst s q).k (mst s q).dp (mst s q).dot (mst s q).dig (mst s q).tr u) w := by
    intro u
    have hdig := hM.out.2.2
    have hB := mst_b s q hM.out.1
    have HRV2 := HRV.out
    have HRM2 := HRM.out
    have HRT2 := HRT.out
    rw [F55_lit]
    refine aK _ _ ?_
    generalize mst s q = x at *
    obtain ⟨m, nd, k, dp, dot, dig, tr⟩ := x
    simp only at hdig hB HRM2 HRT2 ⊢
    subst hdig
    subst HRM2
    subst HRT2
    obtain ⟨dp0, hdp0⟩ : ∃ dp0 : Int, (if dot then dp else nd) = dp0 := ⟨_, rfl⟩
    have hRV : RV = if m = 0 then 0 else dp0 + ex - k := by rw [← HRV2, ← hdp0]; rfl
    have HRV3 := Lib.hid hRV
    have b1 : m < 10 ^ k := hB.1
    have b2 : k ≤ 19 := hB.2.1
    have b3 : nd ≤ 100 := by have := hB.2.2.1; simp only at this; omega
    have b4 : -100 ≤ dp := by have := hB.2.2.2.1; simp only at this; omega
    have b5 : dp ≤ 100 := by have := hB.2.2.2.2; simp only at this; omega
    have HE := Lib.hid hE.out
    clear hB aK HRV2 hRV HRV e1 e2 hge hem h21 hem2 hM hE
    obtain ⟨hqe, hex⟩ := HE.out
    · have hq1 : decide ((q : Int) < s.size) = false := decide_eq_false (by omega)
      by_cases hm0 : m = 0
      · have hmd : ((m : Int) != 0) = false := by simp [hm0]
        have HM0 := Lib.hid hm0
        clear hm0
        cases dot
        all_goals
          go_wp2
          refine bodyPost_ret (results_tmp7 rfl _ _ _) rfl ?_
          refine ⟨?_, rfl⟩
          rw [HRV3.out, if_pos HM0.out]
          rfl
      · have hmd : ((m : Int) != 0) = true := by simp [hm0]
        have HM0 := Lib.hid hm0
        clear hm0
        cases dot
        all_goals
          go_wp2
          refine bodyPost_ret (results_tmp7 rfl _ _ _) rfl ?_
          refine ⟨?_, rfl⟩
          rw [HRV3.out, if_neg HM0.out, hex, ← hdp0, Int.add_zero]
          rfl
  have RS := Lib.hid REST
  clear REST aK
  refine wp_loop_x (fun (x : Nat) => F55 s x (mst s x).m (mst s x).nd (mst s x).k (mst s x).dp (mst s x).dot (mst s x).dig (mst s x).tr) (fun n x w' => n = q - x ∧ x ≤ q ∧ w' = w) q 0 ⟨rfl, Nat.zero_le _, rfl⟩ (F55_at _ _ _ _ _ _ _ _ _ rfl ⟨rfl, rfl, rfl, rfl, rfl, rfl, rfl, rfl, rfl, rfl, rfl, rfl, rfl, rfl, rfl, rfl, rfl, trivial⟩) ?_
  intro n i u wr hrel K2 hK2
  obtain ⟨hn, hi, rfl⟩ := hrel
  have HK := Lib.hid hK2; clear hK2
  clear e1 e2 hge hem h21 hem2
  rw [F55_lit]
  by_cases hiq : i = q
  · subst hiq
    obtain ⟨hqe, -⟩ := hE.out
    · have hq1 : decide ((i : Int) < s.size) = false := decide_eq_false (by omega)
      generalize hx : mst s i = x at *
      obtain ⟨m, nd, k, dp, dot, dig, tr⟩ := x
      simp only at RS ⊢
      subst hqe
      go_wp2
      exact Eq.mp (congrArg (fun a => K a _) (F55_at _ _ _ _ _ _ _ _ _ rfl ⟨rfl, rfl, rfl, rfl, rfl, rfl, rfl, rfl, rfl, rfl, rfl, rfl, rfl, rfl, rfl, rfl, rfl, trivial⟩)) (RS.out _)
  · have hlt : i < s.size := by omega
    have hB := mst_b s i fun j hj => hM.out.1 j (by omega)
    have hS : mst s (i + 1) = (mst s i).step (bt s i) := rfl
    obtain ⟨c, hcc⟩ : ∃ c : Nat, s[i].toNat = c := ⟨_, rfl⟩
    have hc := hM.out.1 i (by omega)
    have hd := hM.out.2.1 i (by omega)
    rw [bt_eq hlt, hcc] at hc hS hd
    generalize mst s i = x at *
    obtain ⟨m, nd, k, dp, dot, dig, tr⟩ := x
    simp only at hB hd ⊢
    have b1 : m < 10 ^ k := hB.1
    have b2 : k ≤ 19 := hB.2.1
    have b3 : nd ≤ 100 := by have := hB.2.2.1; simp only at this; omega
    have b4 : -100 ≤ dp := by have := hB.2.2.2.1; simp only at this; omega
    have b5 : dp ≤ 100 := by have := hB.2.2.2.2; simp only at this; omega
    clear hB
    have hltd : decide ((i : Int) < s.size) = true := decide_eq_true (by omega)
    have g95 : ((c : Int) == 95) = false := by simp; omega
    by_cases h46 : c = 46
    · have g46 : ((c : Int) == 46) = true := by simp; omega
      have hdot : dot = false := hd h46
      subst hdot
      have hS2 : mst s (i + 1) = ⟨m, nd, k, nd, true, dig, tr⟩ := by rw [hS]; exact if_pos h46
      have HS := Lib.hid hS2
      clear hS hS2 hd hc h46
      go_wp2
      exact HK.out (q - (i + 1)) (i + 1) _ _ (by omega) ⟨rfl, by omega, rfl⟩ (by
        rw [HS.out]
        exact F55_at _ _ _ _ _ _ _ _ _ rfl ⟨rfl, rfl, rfl, rfl, rfl, rfl, rfl, rfl, rfl, rfl, rfl, rfl, rfl, rfl, rfl, rfl, rfl, trivial⟩)
    · have g46 : ((c : Int) == 46) = false := by simp; omega
      have hc' : (48 : Int) ≤ c ∧ (c : Int) ≤ 57 := by omega
      obtain ⟨hc1, hc2⟩ := hc'
      have d1 : decide ((48 : Int) ≤ c) = true := decide_eq_true hc1
      have d2 : decide ((c : Int) ≤ 57) = true := decide_eq_true hc2
      by_cases h48 : c = 48
      · subst h48
        by_cases hn0 : nd = 0
        · subst hn0
          have hS2 : mst s (i + 1) = ⟨m, 0, k, dp - 1, dot, true, tr⟩ := by rw [hS]; rfl
          have HS := Lib.hid hS2
          clear hS hS2 hd hc
          go_wp2
          exact HK.out (q - (i + 1)) (i + 1) _ _ (by omega) ⟨rfl, by omega, rfl⟩ (by
            rw [HS.out]
            exact F55_at _ _ _ _ _ _ _ _ _ rfl ⟨rfl, rfl, rfl, rfl, rfl, rfl, rfl, rfl, rfl, rfl, rfl, rfl, rfl, rfl, rfl, rfl, rfl, trivial⟩)
        · have n0 : ((nd : Int) == 0) = false := by simp; omega
          by_cases hk : k < 19
          · have dk : decide ((k : Int) < 19) = true := decide_eq_true (by omega)
            have hmb : m < 10 ^ 18 := Nat.lt_of_lt_of_le b1 (Nat.pow_le_pow_right (by omega) (by omega))
            have hS2 : mst s (i + 1) = ⟨m * 10, nd + 1, k + 1, dp, dot, true, tr⟩ := by
              rw [hS]
              unfold MS.step
              rw [if_neg (by omega), if_neg (by simp; omega), if_pos (by exact hk)]
              simp
            have HS := Lib.hid hS2
            clear hS hS2 hd hc
            go_wp2
            exact HK.out (q - (i + 1)) (i + 1) _ _ (by omega) ⟨rfl, by omega, rfl⟩ (by
              rw [HS.out]
              exact F55_at _ _ _ _ _ _ _ _ _ rfl ⟨rfl, rfl, rfl, rfl, rfl, rfl, rfl, rfl, rfl, rfl, rfl, rfl, rfl, rfl, rfl, rfl, rfl, trivial⟩)
          · have dk : decide ((k : Int) < 19) = false := decide_eq_false (by omega)
            have hS2 : mst s (i + 1) = ⟨m, nd + 1, k, dp, dot, true, tr⟩ := by
              rw [hS]
              unfold MS.step
              rw [if_neg (by omega), if_neg (by simp; omega), if_neg (by exact hk)]
              rfl
            have HS := Lib.hid hS2
            clear hS hS2 hd hc
            go_wp2
            exact HK.out (q - (i + 1)) (i + 1) _ _ (by omega) ⟨rfl, by omega, rfl⟩ (by
              rw [HS.out]
              exact F55_at _ _ _ _ _ _ _ _ _ rfl ⟨rfl, rfl, rfl, rfl, rfl, rfl, rfl, rfl, rfl, rfl, rfl, rfl, rfl, rfl, rfl, rfl, rfl, trivial⟩)
      · have n48 : ((c : Int) == 48) = false := by simp; omega
        have n48b : ((c : Int) != 48) = true := by simp; omega
        by_cases hk : k < 19
        · have dk : decide ((k : Int) < 19) = true := decide_eq_true (by omega)
          have hmb : m < 10 ^ 18 := Nat.lt_of_lt_of_le b1 (Nat.pow_le_pow_right (by omega) (by omega))
          have hS2 : mst s (i + 1) = ⟨m * 10 + (c - 48), nd + 1, k + 1, dp, dot, true, tr⟩ := by
            rw [hS]
            unfold MS.step
            rw [if_neg (by omega), if_neg (by omega), if_pos (by exact hk)]
          have HS := Lib.hid hS2
          have HV : Hid ((m : Int) * 10 + ((c : Int) - 48) = ((m * 10 + (c - 48) : Nat) : Int)) := Lib.hid (by omega)
          clear hS hS2 hd hc
          go_wp2
          rw [HV.out]
          exact HK.out (q - (i + 1)) (i + 1) _ _ (by omega) ⟨rfl, by omega, rfl⟩ (by
            rw [HS.out]
            exact F55_at _ _ _ _ _ _ _ _ _ rfl ⟨rfl, rfl, rfl, rfl, rfl, rfl, rfl, rfl, rfl, rfl, rfl, rfl, rfl, rfl, rfl, rfl, rfl, trivial⟩)
        · have dk : decide ((k : Int) < 19) = false := decide_eq_false (by omega)
          have hS2 : mst s (i + 1) = ⟨m, nd + 1, k, dp, dot, true, true⟩ := by
            rw [hS]
            unfold MS.step
            rw [if_neg (by omega), if_neg (by omega), if_neg (by exact hk), if_neg (by omega)]
          have HS := Lib.hid hS2
          clear hS hS2 hd hc
          go_wp2
          exact HK.out (q - (i + 1)) (i + 1) _ _ (by omega) ⟨rfl, by omega, rfl⟩ (by
            rw [HS.out]
            exact F55_at _ _ _ _ _ _ _ _ _ rfl ⟨rfl, rfl, rfl, rfl, rfl, rfl, rfl, rfl, rfl, rfl, rfl, rfl, rfl, rfl, rfl, rfl, rfl, trivial⟩)

set_option maxRecDepth 100000
set_option maxHeartbeats 8000000 in
theorem rf_2_0 (s : ByteArray) (q : Nat) (ex : Int) (w : World) (hs : s.size ≤ 100) (hq : q ≤ s.size) (hq0 : 0 < q) (hM : MOk s q) (hE : EK0 s q ex) (c : Nat) (h0 : 0 < s.size) (hcc : s[0].toNat = c) (hx : ∃ c1 : Nat, ∃ h : 1 < s.size, s[1].toNat = c1 ∧ ((c : Int) == 48) = true ∧ decide ((2 : Int) < s.size) = true ∧ (1 : Int) < s.size ∧ (Go.bits .or .u8 (c1 : Int) 32 == 120) = false) :
    Calls Tryd.prog 55 #[.string s] w (RfPost s (mst s q).m (rfE (mst s q) ex) (mst s q).tr w) := by
  have hc := hM.1 0 hq0
  rw [bt_eq h0, hcc] at hc
  have e1 : ((c : Int) == 43) = false := by simp; omega
  have e2 : ((c : Int) == 45) = false := by simp; omega
  have hge : decide ((0 : Int) ≥ s.size) = false := decide_eq_false (by omega)
  have hem : decide (s = ByteArray.empty) = false := decide_eq_false (by rintro rfl; exact absurd h0 (by decide))
  have hM := Lib.hid hM
  have hE := Lib.hid hE
  have hem2 : (s = ByteArray.empty) = False := by simpa using hem
  clear hc
  obtain ⟨RV, hRV⟩ : ∃ RV, rfE (mst s q) ex = RV := ⟨_, rfl⟩
  obtain ⟨RM, hRM⟩ : ∃ RM, (mst s q).m = RM := ⟨_, rfl⟩
  obtain ⟨RT, hRT⟩ : ∃ RT, (mst s q).tr = RT := ⟨_, rfl⟩
  rw [hRV, hRM, hRT]
  have HRV := Lib.hid hRV
  have HRM := Lib.hid hRM
  have HRT := Lib.hid hRT
  clear hRV hRM hRT
  obtain ⟨ch, h1s, hch, h48, h21, h1i, hlo⟩ := hx
  go_enter Tryd.func55, Tryd.ntmps55
  go_wp2
  go_step3
  go_wp2
  go_step3
  go_wp2
  rename_i K aK
  have REST : ∀ u, K (F55 s q (mst s q).m (mst s q).nd (mst s q).k (mst s q).dp (mst s q).dot (mst s q).dig (mst s q).tr u) w := by
    intro u
    have hdig := hM.out.2.2
    have hB := mst_b s q hM.out.1
    have HRV2 := HRV.out
    have HRM2 := HRM.out
    have HRT2 := HRT.out
    rw [F55_lit]
    refine aK _ _ ?_
    generalize mst s q = x at *
    obtain ⟨m, nd, k, dp, dot, dig, tr⟩ := x
    simp only at hdig hB HRM2 HRT2 ⊢
    subst hdig
    subst HRM2
    subst HRT2
    obtain ⟨dp0, hdp0⟩ : ∃ dp0 : Int, (if dot then dp else nd) = dp0 := ⟨_, rfl⟩
    have hRV : RV = if m = 0 then 0 else dp0 + ex - k := by rw [← HRV2, ← hdp0]; rfl
    have HRV3 := Lib.hid hRV
    have b1 : m < 10 ^ k := hB.1
    have b2 : k ≤ 19 := hB.2.1
    have b3 : nd ≤ 100 := by have := hB.2.2.1; simp only at this; omega
    have b4 : -100 ≤ dp := by have := hB.2.2.2.1; simp only at this; omega
    have b5 : dp ≤ 100 := by have := hB.2.2.2.2; simp only at this; omega
    have HE := Lib.hid hE.out
    clear hB aK HRV2 hRV HRV e1 e2 hge hem h21 hem2 hM hE
    obtain ⟨hqe, hex⟩ := HE.out
    · have hq1 : decide ((q : Int) < s.size) = false := decide_eq_false (by omega)
      by_cases hm0 : m = 0
      · have hmd : ((m : Int) != 0) = false := by simp [hm0]
        have HM0 := Lib.hid hm0
        clear hm0
        cases dot
        all_goals
          go_wp2
          refine bodyPost_ret (results_tmp7 rfl _ _ _) rfl ?_
          refine ⟨?_, rfl⟩
          rw [HRV3.out, if_pos HM0.out]
          rfl
      · have hmd : ((m : Int) != 0) = true := by simp [hm0]
        have HM0 := Lib.hid hm0
        clear hm0
        cases dot
        all_goals
          go_wp2
          refine bodyPost_ret (results_tmp7 rfl _ _ _) rfl ?_
          refine ⟨?_, rfl⟩
          rw [HRV3.out, if_neg HM0.out, hex, ← hdp0, Int.add_zero]
          rfl
  have RS := Lib.hid REST
  clear REST aK
  refine wp_loop_x (fun (x : Nat) => F55 s x (mst s x).m (mst s x).nd (mst s x).k (mst s x).dp (mst s x).dot (mst s x).dig (mst s x).tr) (fun n x w' => n = q - x ∧ x ≤ q ∧ w' = w) q 0 ⟨rfl, Nat.zero_le _, rfl⟩ (F55_at _ _ _ _ _ _ _ _ _ rfl ⟨rfl, rfl, rfl, rfl, rfl, rfl, rfl, rfl, rfl, rfl, rfl, rfl, rfl, rfl, rfl, rfl, rfl, trivial⟩) ?_
  intro n i u wr hrel K2 hK2
  obtain ⟨hn, hi, rfl⟩ := hrel
  have HK := Lib.hid hK2; clear hK2
  clear e1 e2 hge hem h21 hem2
  rw [F55_lit]
  by_cases hiq : i = q
  · subst hiq
    obtain ⟨hqe, -⟩ := hE.out
    · have hq1 : decide ((i : Int) < s.size) = false := decide_eq_false (by omega)
      generalize hx : mst s i = x at *
      obtain ⟨m, nd, k, dp, dot, dig, tr⟩ := x
      simp only at RS ⊢
      subst hqe
      go_wp2
      exact Eq.mp (congrArg (fun a => K a _) (F55_at _ _ _ _ _ _ _ _ _ rfl ⟨rfl, rfl, rfl, rfl, rfl, rfl, rfl, rfl, rfl, rfl, rfl, rfl, rfl, rfl, rfl, rfl, rfl, trivial⟩)) (RS.out _)
  · have hlt : i < s.size := by omega
    have hB := mst_b s i fun j hj => hM.out.1 j (by omega)
    have hS : mst s (i + 1) = (mst s i).step (bt s i) := rfl
    obtain ⟨c, hcc⟩ : ∃ c : Nat, s[i].toNat = c := ⟨_, rfl⟩
    have hc := hM.out.1 i (by omega)
    have hd := hM.out.2.1 i (by omega)
    rw [bt_eq hlt, hcc] at hc hS hd
    generalize mst s i = x at *
    obtain ⟨m, nd, k, dp, dot, dig, tr⟩ := x
    simp only at hB hd ⊢
    have b1 : m < 10 ^ k := hB.1
    have b2 : k ≤ 19 := hB.2.1
    have b3 : nd ≤ 100 := by have := hB.2.2.1; simp only at this; omega
    have b4 : -100 ≤ dp := by have := hB.2.2.2.1; simp only at this; omega
    have b5 : dp ≤ 100 := by have := hB.2.2.2.2; simp only at this; omega
    clear hB
    have hltd : decide ((i : Int) < s.size) = true := decide_eq_true (by omega)
    have g95 : ((c : Int) == 95) = false := by simp; omega
    by_cases h46 : c = 46
    · have g46 : ((c : Int) == 46) = true := by simp; omega
      have hdot : dot = false := hd h46
      subst hdot
      have hS2 : mst s (i + 1) = ⟨m, nd, k, nd, true, dig, tr⟩ := by rw [hS]; exact if_pos h46
      have HS := Lib.hid hS2
      clear hS hS2 hd hc h46
      go_wp2
      exact HK.out (q - (i + 1)) (i + 1) _ _ (by omega) ⟨rfl, by omega, rfl⟩ (by
        rw [HS.out]
        exact F55_at _ _ _ _ _ _ _ _ _ rfl ⟨rfl, rfl, rfl, rfl, rfl, rfl, rfl, rfl, rfl, rfl, rfl, rfl, rfl, rfl, rfl, rfl, rfl, trivial⟩)
    · have g46 : ((c : Int) == 46) = false := by simp; omega
      have hc' : (48 : Int) ≤ c ∧ (c : Int) ≤ 57 := by omega
      obtain ⟨hc1, hc2⟩ := hc'
      have d1 : decide ((48 : Int) ≤ c) = true := decide_eq_true hc1
      have d2 : decide ((c : Int) ≤ 57) = true := decide_eq_true hc2
      by_cases h48 : c = 48
      · subst h48
        by_cases hn0 : nd = 0
        · subst hn0
          have hS2 : mst s (i + 1) = ⟨m, 0, k, dp - 1, dot, true, tr⟩ := by rw [hS]; rfl
          have HS := Lib.hid hS2
          clear hS hS2 hd hc
          go_wp2
          exact HK.out (q - (i + 1)) (i + 1) _ _ (by omega) ⟨rfl, by omega, rfl⟩ (by
            rw [HS.out]
            exact F55_at _ _ _ _ _ _ _ _ _ rfl ⟨rfl, rfl, rfl, rfl, rfl, rfl, rfl, rfl, rfl, rfl, rfl, rfl, rfl, rfl, rfl, rfl, rfl, trivial⟩)
        · have n0 : ((nd : Int) == 0) = false := by simp; omega
          by_cases hk : k < 19
          · have dk : decide ((k : Int) < 19) = true := decide_eq_true (by omega)
            have hmb : m < 10 ^ 18 := Nat.lt_of_lt_of_le b1 (Nat.pow_le_pow_right (by omega) (by omega))
            have hS2 : mst s (i + 1) = ⟨m * 10, nd + 1, k + 1, dp, dot, true, tr⟩ := by
              rw [hS]
              unfold MS.step
              rw [if_neg (by omega), if_neg (by simp; omega), if_pos (by exact hk)]
              simp
            have HS := Lib.hid hS2
            clear hS hS2 hd hc
            go_wp2
            exact HK.out (q - (i + 1)) (i + 1) _ _ (by omega) ⟨rfl, by omega, rfl⟩ (by
              rw [HS.out]
              exact F55_at _ _ _ _ _ _ _ _ _ rfl ⟨rfl, rfl, rfl, rfl, rfl, rfl, rfl, rfl, rfl, rfl, rfl, rfl, rfl, rfl, rfl, rfl, rfl, trivial⟩)
          · have dk : decide ((k : Int) < 19) = false := decide_eq_false (by omega)
            have hS2 : mst s (i + 1) = ⟨m, nd + 1, k, dp, dot, true, tr⟩ := by
              rw [hS]
              unfold MS.step
              rw [if_neg (by omega), if_neg (by simp; omega), if_neg (by exact hk)]
              rfl
            have HS := Lib.hid hS2
            clear hS hS2 hd hc
            go_wp2
            exact HK.out (q - (i + 1)) (i + 1) _ _ (by omega) ⟨rfl, by omega, rfl⟩ (by
              rw [HS.out]
              exact F55_at _ _ _ _ _ _ _ _ _ rfl ⟨rfl, rfl, rfl, rfl, rfl, rfl, rfl, rfl, rfl, rfl, rfl, rfl, rfl, rfl, rfl, rfl, rfl, trivial⟩)
      · have n48 : ((c : Int) == 48) = false := by simp; omega
        have n48b : ((c : Int) != 48) = true := by simp; omega
        by_cases hk : k < 19
        · have dk : decide ((k : Int) < 19) = true := decide_eq_true (by omega)
          have hmb : m < 10 ^ 18 := Nat.lt_of_lt_of_le b1 (Nat.pow_le_pow_right (by omega) (by omega))
          have hS2 : mst s (i + 1) = ⟨m * 10 + (c - 48), nd + 1, k + 1, dp, dot, true, tr⟩ := by
            rw [hS]
            unfold MS.step
            rw [if_neg (by omega), if_neg (by omega), if_pos (by exact hk)]
          have HS := Lib.hid hS2
          have HV : Hid ((m : Int) * 10 + ((c : Int) - 48) = ((m * 10 + (c - 48) : Nat) : Int)) := Lib.hid (by omega)
          clear hS hS2 hd hc
          go_wp2
          rw [HV.out]
          exact HK.out (q - (i + 1)) (i + 1) _ _ (by omega) ⟨rfl, by omega, rfl⟩ (by
            rw [HS.out]
            exact F55_at _ _ _ _ _ _ _ _ _ rfl ⟨rfl, rfl, rfl, rfl, rfl, rfl, rfl, rfl, rfl, rfl, rfl, rfl, rfl, rfl, rfl, rfl, rfl, trivial⟩)
        · have dk : decide ((k : Int) < 19) = false := decide_eq_false (by omega)
          have hS2 : mst s (i + 1) = ⟨m, nd + 1, k, dp, dot, true, true⟩ := by
            rw [hS]
            unfold MS.step
            rw [if_neg (by omega), if_neg (by omega), if_neg (by exact hk), if_neg (by omega)]
          have HS := Lib.hid hS2
          clear hS hS2 hd hc
          go_wp2
          exact HK.out (q - (i + 1)) (i + 1) _ _ (by omega) ⟨rfl, by omega, rfl⟩ (by
            rw [HS.out]
            exact F55_at _ _ _ _ _ _ _ _ _ rfl ⟨rfl, rfl, rfl, rfl, rfl, rfl, rfl, rfl, rfl, rfl, rfl, rfl, rfl, rfl, rfl, rfl, rfl, trivial⟩)

end Go.Proofs.YtblphppdfiipfaaDoor
