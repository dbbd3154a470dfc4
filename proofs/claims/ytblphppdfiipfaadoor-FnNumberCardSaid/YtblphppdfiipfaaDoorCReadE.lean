/- readFloat at texts with an exponent with minus. Conditions: none. -/
import Derived.Test.YtblphppdfiipfaaDoorCFloE
namespace Go.Proofs.YtblphppdfiipfaaDoor
open Go.RowKit
set_option maxRecDepth 100000
set_option maxHeartbeats 8000000 in
theorem rf_0_3 (s : ByteArray) (q : Nat) (ex : Int) (w : World) (hs : s.size ≤ 100) (hq : q ≤ s.size) (hq0 : 0 < q) (hM : MOk s q) (hE : EK3 s q ex) (c : Nat) (h0 : 0 < s.size) (hcc : s[0].toNat = c) (hx : decide ((2 : Int) < s.size) = false) :
    Calls Tryd.prog 55 #[.string s] w (RfPost s (mst s q).m (rfE (mst s q) ex) (mst s q).tr w) := by
  have hc := hM.1 0 hq0
  rw [bt_eq h0, hcc] at hc
  have e1 : ((c : Int) == 43) = false := by simp; omega
  have e2 : ((c : Int) == 45) = false := by simp; omega
  have hge : decide ((0 : Int) ≥ s.size) = false := decide_eq_false (by omega)
  have hem : decide (s = ByteArray.empty) = false := decide_eq_false (by rintro rfl; exact absurd h0 (by decide))
  have hM := Lib.hid hM
  have hE := Lib.hid hE
  have hem2 : (s = ByteArray.empty) = False := by simpa using hem
  clear hc
  obtain ⟨RV, hRV⟩ : ∃ RV, rfE (mst s q) ex = RV := ⟨_, rfl⟩
  obtain ⟨RM, hRM⟩ : ∃ RM, (mst s q).m = RM := ⟨_, rfl⟩
  obtain ⟨RT, hRT⟩ : ∃ RT, (mst s q).tr = RT := ⟨_, rfl⟩
  rw [hRV, hRM, hRT]
  have HRV := Lib.hid hRV
  have HRM := Lib.hid hRM
  have HRT := Lib.hid hRT
  clear hRV hRM hRT
  have h21 := hx
  clear hx
  go_enter Tryd.func55, Tryd.ntmps55
  go_wp2
  go_step3
  go_wp2
  go_step3
  go_wp2
  rename_i K aK
  have REST : ∀ u, K (F55 s q (mst s q).m (mst s q).nd (mst s q).k (mst s q).dp (mst s q).dot (mst s q).dig (mst s q).tr u) w := by
    intro u
    have hdig := hM.out.2.2
    have hB := mst_b s q hM.out.1
    have HRV2 := HRV.out
    have HRM2 := HRM.out
    have HRT2 := HRT.out
    rw [F55_lit]
    refine aK _ _ ?_
    generalize mst s q = x at *
    obtain ⟨m, nd, k, dp, dot, dig, tr⟩ := x
    simp only at hdig hB HRM2 HRT2 ⊢
    subst hdig
    subst HRM2
    subst HRT2
    obtain ⟨dp0, hdp0⟩ : ∃ dp0 : Int, (if dot then dp else nd) = dp0 := ⟨_, rfl⟩
    have hRV : RV = if m = 0 then 0 else dp0 + ex - k := by rw [← HRV2, ← hdp0]; rfl
    have HRV3 := Lib.hid hRV
    have b1 : m < 10 ^ k := hB.1
    have b2 : k ≤ 19 := hB.2.1
    have b3 : nd ≤ 100 := by have := hB.2.2.1; simp only at this; omega
    have b4 : -100 ≤ dp := by have := hB.2.2.2.1; simp only at this; omega
    have b5 : dp ≤ 100 := by have := hB.2.2.2.2; simp only at this; omega
    have HE := Lib.hid hE.out
    clear hB aK HRV2 hRV HRV e1 e2 hge hem h21 hem2 hM hE
    obtain ⟨hqs, hqc, r, sg, hr, hqr, hdg, hexx, hsg⟩ := HE.out
    · have hltd : decide ((q : Int) < s.size) = true := decide_eq_true (by omega)
      obtain ⟨cq, hcq⟩ : ∃ c : Nat, s[q].toNat = c := ⟨_, rfl⟩
      rw [bt_eq hqs, hcq] at hqc
      have hlow := low101 cq hqc
      have hl2 : q + 1 < s.size := by omega
      have hq2 : decide ((q : Int) + 1 ≥ s.size) = false := decide_eq_false (by omega)
      obtain ⟨w4, w5, w3, w2, w1⟩ := idx1 hs hl2
      have HD := Lib.hid hdg
      have HEX := Lib.hid hexx
      clear hqc hdg hexx HE
      obtain ⟨c1, hc1⟩ : ∃ c : Nat, s[q + 1].toNat = c := ⟨_, rfl⟩
      rw [bt_eq hl2, hc1] at hsg
      obtain ⟨hrq, hcs, hsg⟩ := hsg
      · have s1 : ((c1 : Int) == 43) = false := by simp; omega
        have s2 : ((c1 : Int) == 45) = true := by simp; omega
        subst hrq
        subst hsg
        have HDP := Lib.hid hdp0
        clear hdp0
        have hl3 : q + 2 < s.size := hr
        have hd2 := HD.out (q + 2) (Nat.le_refl _) hl3
        obtain ⟨c2, hc2⟩ : ∃ c : Nat, s[q + 2].toNat = c := ⟨_, rfl⟩
        rw [bt_eq hl3, hc2] at hd2
        have s3 : decide ((c2 : Int) < 48) = false := decide_eq_false (by omega)
        have s4 : decide ((c2 : Int) > 57) = false := decide_eq_false (by omega)
        have hq3 : decide ((q : Int) + 2 ≥ s.size) = false := decide_eq_false (by omega)
        have v1 : (q : Int) + 2 < s.size := by omega
        have v2 : (0 : Int) ≤ q + 2 := by omega
        have v3 : ((q : Int) + 2).toNat = q + 2 := by omega
        cases dot
        · have hdotd : (if false = true then dp else (nd : Int)) = nd := if_neg (by decide)
          go_wp2
          rename_i K1 aK1 K2 aK2
          have R2 : ∀ u, K2 (F55e s s.size m k (nd : Int) (-1) (est s (q + 2) (s.size - (q + 2))) tr u) w := by
            intro u
            rw [F55e_lit]
            refine aK2 _ _ ?_
            have hEb := est_b s (q + 2) (s.size - (q + 2)) fun j hj => (HD.out _ (by omega) (by omega)).2
            have HEX2 := HEX.out
            generalize est s (q + 2) (s.size - (q + 2)) = E at *
            by_cases hm0 : m = 0
            · have hmd : ((m : Int) != 0) = false := by simp [hm0]
              have HM0 := Lib.hid hm0
              clear hm0
              go_wp2
              refine bodyPost_ret (results_tmp7 rfl _ _ _) rfl ?_
              refine ⟨?_, rfl⟩
              rw [HRV3.out, if_pos HM0.out]
              rfl
            · have hmd : ((m : Int) != 0) = true := by simp [hm0]
              have HM0 := Lib.hid hm0
              clear hm0
              go_wp2
              refine bodyPost_ret (results_tmp7 rfl _ _ _) rfl ?_
              refine ⟨?_, rfl⟩
              rw [HRV3.out, if_neg HM0.out, ← HDP.out, HEX2]
              refine congrArg (fun v => Ending.returned (.tuple #[.int .u64 m, .int .i64 v, .bool false, .bool tr, .bool false, .int .i64 s.size, .bool true])) ?_
              simp only [hdotd]
              omega
          have RS2 := Lib.hid R2
          clear R2 aK1 aK2 HEX
          refine wp_loop_x (fun (x : Nat) => F55e s x m k (nd : Int) (-1) (est s (q + 2) (x - (q + 2))) tr) (fun n x w' => n = s.size - x ∧ (q + 2) ≤ x ∧ x ≤ s.size ∧ w' = w) (s.size - (q + 2)) (q + 2) ⟨rfl, Nat.le_refl _, by omega, rfl⟩ (by
            rw [Nat.sub_self]
            exact F55e_at _ _ _ _ _ _ _ _ rfl ⟨rfl, rfl, rfl, rfl, rfl, rfl, rfl, rfl, rfl, rfl, rfl, rfl, rfl, rfl, rfl, trivial⟩) ?_
          intro n i u wr hrel K3 hK3
          obtain ⟨hn, hi1, hi2, rfl⟩ := hrel
          have HK3 := Lib.hid hK3; clear hK3
          clear s1 s2 hltd hq2 w1 w2 w3 w4 w5 hlow
          rw [F55e_lit]
          by_cases his : i = s.size
          · have hq1 : decide ((i : Int) < s.size) = false := decide_eq_false (by omega)
            subst his
            go_wp2
            exact Eq.mp (congrArg (fun a => K2 a _) (F55e_at _ _ _ _ _ _ _ _ rfl ⟨rfl, rfl, rfl, rfl, rfl, rfl, rfl, rfl, rfl, rfl, rfl, rfl, rfl, rfl, rfl, trivial⟩)) (RS2.out _)
          · have hlt : i < s.size := by omega
            have hltd : decide ((i : Int) < s.size) = true := decide_eq_true (by omega)
            have hc := HD.out i hi1 hlt
            have hS : est s (q + 2) (i + 1 - (q + 2)) = if est s (q + 2) (i - (q + 2)) < 10000 then est s (q + 2) (i - (q + 2)) * 10 + (bt s i - 48) else est s (q + 2) (i - (q + 2)) := by
              rw [show i + 1 - (q + 2) = i - (q + 2) + 1 by omega, est, show (q + 2) + (i - (q + 2)) = i by omega]
            obtain ⟨cc, hcc⟩ : ∃ c : Nat, s[i].toNat = c := ⟨_, rfl⟩
            rw [bt_eq hlt, hcc] at hc hS
            generalize est s (q + 2) (i - (q + 2)) = E at *
            have g95 : ((cc : Int) == 95) = false := by simp; omega
            have g48 : decide ((48 : Int) ≤ cc) = true := decide_eq_true (by omega)
            have g57 : decide ((cc : Int) ≤ 57) = true := decide_eq_true (by omega)
            by_cases hE1 : E < 10000
            · rw [if_pos hE1] at hS
              have gE : decide ((E : Int) < 10000) = true := decide_eq_true (by omega)
              have HS := Lib.hid hS
              have HV : Hid ((E : Int) * 10 + (cc : Int) - 48 = ((E * 10 + (cc - 48) : Nat) : Int)) := Lib.hid (by omega)
              clear hS
              go_wp2
              rw [HV.out]
              exact HK3.out (s.size - (i + 1)) (i + 1) _ _ (by omega) ⟨rfl, by omega, by omega, rfl⟩ (by
                rw [HS.out]
                exact F55e_at _ _ _ _ _ _ _ _ rfl ⟨rfl, rfl, rfl, rfl, rfl, rfl, rfl, rfl, rfl, rfl, rfl, rfl, rfl, rfl, rfl, trivial⟩)
            · rw [if_neg hE1] at hS
              have gE : decide ((E : Int) < 10000) = false := decide_eq_false (by omega)
              have HS := Lib.hid hS
              clear hS
              go_wp2
              exact HK3.out (s.size - (i + 1)) (i + 1) _ _ (by omega) ⟨rfl, by omega, by omega, rfl⟩ (by
                rw [HS.out]
                exact F55e_at _ _ _ _ _ _ _ _ rfl ⟨rfl, rfl, rfl, rfl, rfl, rfl, rfl, rfl, rfl, rfl, rfl, rfl, rfl, rfl, rfl, trivial⟩)
        · have hdotd : (if true = true then dp else (nd : Int)) = dp := if_pos rfl
          go_wp2
          rename_i K1 aK1 K2 aK2
          have R2 : ∀ u, K2 (F55e s s.size m k dp (-1) (est s (q + 2) (s.size - (q + 2))) tr u) w := by
            intro u
            rw [F55e_lit]
            refine aK2 _ _ ?_
            have hEb := est_b s (q + 2) (s.size - (q + 2)) fun j hj => (HD.out _ (by omega) (by omega)).2
            have HEX2 := HEX.out
            generalize est s (q + 2) (s.size - (q + 2)) = E at *
            by_cases hm0 : m = 0
            · have hmd : ((m : Int) != 0) = false := by simp [hm0]
              have HM0 := Lib.hid hm0
              clear hm0
              go_wp2
              refine bodyPost_ret (results_tmp7 rfl _ _ _) rfl ?_
              refine ⟨?_, rfl⟩
              rw [HRV3.out, if_pos HM0.out]
              rfl
            · have hmd : ((m : Int) != 0) = true := by simp [hm0]
              have HM0 := Lib.hid hm0
              clear hm0
              go_wp2
              refine bodyPost_ret (results_tmp7 rfl _ _ _) rfl ?_
              refine ⟨?_, rfl⟩
              rw [HRV3.out, if_neg HM0.out, ← HDP.out, HEX2]
              refine congrArg (fun v => Ending.returned (.tuple #[.int .u64 m, .int .i64 v, .bool false, .bool tr, .bool false, .int .i64 s.size, .bool true])) ?_
              simp only [hdotd]
              omega
          have RS2 := Lib.hid R2
          clear R2 aK1 aK2 HEX
          refine wp_loop_x (fun (x : Nat) => F55e s x m k dp (-1) (est s (q + 2) (x - (q + 2))) tr) (fun n x w' => n = s.size - x ∧ (q + 2) ≤ x ∧ x ≤ s.size ∧ w' = w) (s.size - (q + 2)) (q + 2) ⟨rfl, Nat.le_refl _, by omega, rfl⟩ (by
            rw [Nat.sub_self]
            exact F55e_at _ _ _ _ _ _ _ _ rfl ⟨rfl, rfl, rfl, rfl, rfl, rfl, rfl, rfl, rfl, rfl, rfl, rfl, rfl, rfl, rfl, trivial⟩) ?_
          intro n i u wr hrel K3 hK3
          obtain ⟨hn, hi1, hi2, rfl⟩ := hrel
          have HK3 := Lib.hid hK3; clear hK3
          clear s1 s2 hltd hq2 w1 w2 w3 w4 w5 hlow
          rw [F55e_lit]
          by_cases his : i = s.size
          · have hq1 : decide ((i : Int) < s.size) = false := decide_eq_false (by omega)
            subst his
            go_wp2
            exact Eq.mp (congrArg (fun a => K2 a _) (F55e_at _ _ _ _ _ _ _ _ rfl ⟨rfl, rfl, rfl, rfl, rfl, rfl, rfl, rfl, rfl, rfl, rfl, rfl, rfl, rfl, rfl, trivial⟩)) (RS2.out _)
          · have hlt : i < s.size := by omega
            have hltd : decide ((i : Int) < s.size) = true := decide_eq_true (by omega)
            have hc := HD.out i hi1 hlt
            have hS : est s (q + 2) (i + 1 - (q + 2)) = if est s (q + 2) (i - (q + 2)) < 10000 then est s (q + 2) (i - (q + 2)) * 10 + (bt s i - 48) else est s (q + 2) (i - (q + 2)) := by
              rw [show i + 1 - (q + 2) = i - (q + 2) + 1 by omega, est, show (q + 2) + (i - (q + 2)) = i by omega]
            obtain ⟨cc, hcc⟩ : ∃ c : Nat, s[i].toNat = c := ⟨_, rfl⟩
            rw [bt_eq hlt, hcc] at hc hS
            generalize est s (q + 2) (i - (q + 2)) = E at *
            have g95 : ((cc : Int) == 95) = false := by simp; omega
            have g48 : decide ((48 : Int) ≤ cc) = true := decide_eq_true (by omega)
            have g57 : decide ((cc : Int) ≤ 57) = true := decide_eq_true (by omega)
            by_cases hE1 : E < 10000
            · rw [if_pos hE1] at hS
              have gE : decide ((E : Int) < 10000) = true := decide_eq_true (by omega)
              have HS := Lib.hid hS
              have HV : Hid ((E : Int) * 10 + (cc : Int) - 48 = ((E * 10 + (cc - 48) : Nat) : Int)) := Lib.hid (by omega)
              clear hS
              go_wp2
              rw [HV.out]
              exact HK3.out (s.size - (i + 1)) (i + 1) _ _ (by omega) ⟨rfl, by omega, by omega, rfl⟩ (by
                rw [HS.out]
                exact F55e_at _ _ _ _ _ _ _ _ rfl ⟨rfl, rfl, rfl, rfl, rfl, rfl, rfl, rfl, rfl, rfl, rfl, rfl, rfl, rfl, rfl, trivial⟩)
            · rw [if_neg hE1] at hS
              have gE : decide ((E : Int) < 10000) = false := decide_eq_false (by omega)
              have HS := Lib.hid hS
              clear hS
              go_wp2
              exact HK3.out (s.size - (i + 1)) (i + 1) _ _ (by omega) ⟨rfl, by omega, by omega, rfl⟩ (by
                rw [HS.out]
                exact F55e_at _ _ _ _ _ _ _ _ rfl ⟨rfl, rfl, rfl, rfl, rfl, rfl, rfl, rfl, rfl, rfl, rfl, rfl, rfl, rfl, rfl, trivial⟩)
  have RS := Lib.hid REST
  clear REST aK
  refine wp_loop_x (fun (x : Nat) => F55 s x (mst s x).m (mst s x).nd (mst s x).k (mst s x).dp (mst s x).dot (mst s x).dig (mst s x).tr) (fun n x w' => n = q - x ∧ x ≤ q ∧ w' = w) q 0 ⟨rfl, Nat.zero_le _, rfl⟩ (F55_at _ _ _ _ _ _ _ _ _ rfl ⟨rfl, rfl, rfl, rfl, rfl, rfl, rfl, rfl, rfl, rfl, rfl, rfl, rfl, rfl, rfl, rfl, rfl, trivial⟩) ?_
  intro n i u wr hrel K2 hK2
  obtain ⟨hn, hi, rfl⟩ := hrel
  have HK := Lib.hid hK2; clear hK2
  clear e1 e2 hge hem h21 hem2
  rw [F55_lit]
  by_cases hiq : i = q
  · subst hiq
    obtain ⟨hqs, hqc, -⟩ := hE.out
    · have hltd : decide ((i : Int) < s.size) = true := decide_eq_true (by omega)
      obtain ⟨c, hcc⟩ : ∃ c : Nat, s[i].toNat = c := ⟨_, rfl⟩
      rw [bt_eq hqs, hcc] at hqc
      have g95 : ((c : Int) == 95) = false := by simp; omega
      have g46 : ((c : Int) == 46) = false := by simp; omega
      have g48 : decide ((48 : Int) ≤ c) = true := decide_eq_true (by omega)
      have g57 : decide ((c : Int) ≤ 57) = false := decide_eq_false (by omega)
      generalize hx : mst s i = x at *
      obtain ⟨m, nd, k, dp, dot, dig, tr⟩ := x
      simp only at RS ⊢
      clear hqc
      go_wp2
      exact Eq.mp (congrArg (fun a => K a _) (F55_at _ _ _ _ _ _ _ _ _ rfl ⟨rfl, rfl, rfl, rfl, rfl, rfl, rfl, rfl, rfl, rfl, rfl, rfl, rfl, rfl, rfl, rfl, rfl, trivial⟩)) (RS.out _)
  · have hlt : i < s.size := by omega
    have hB := mst_b s i fun j hj => hM.out.1 j (by omega)
    have hS : mst s (i + 1) = (mst s i).step (bt s i) := rfl
    obtain ⟨c, hcc⟩ : ∃ c : Nat, s[i].toNat = c := ⟨_, rfl⟩
    have hc := hM.out.1 i (by omega)
    have hd := hM.out.2.1 i (by omega)
    rw [bt_eq hlt, hcc] at hc hS hd
    generalize mst s i = x at *
    obtain ⟨m, nd, k, dp, dot, dig, tr⟩ := x
    simp only at hB hd ⊢
    have b1 : m < 10 ^ k := hB.1
    have b2 : k ≤ 19 := hB.2.1
    have b3 : nd ≤ 100 := by have := hB.2.2.1; simp only at this; omega
    have b4 : -100 ≤ dp := by have := hB.2.2.2.1; simp only at this; omega
    have b5 : dp ≤ 100 := by have := hB.2.2.2.2; simp only at this; omega
    clear hB
    have hltd : decide ((i : Int) < s.size) = true := decide_eq_true (by omega)
    have g95 : ((c : Int) == 95) = false := by simp; omega
    by_cases h46 : c = 46
    · have g46 : ((c : Int) == 46) = true := by simp; omega
      have hdot : dot = false := hd h46
      subst hdot
      have hS2 : mst s (i + 1) = ⟨m, nd, k, nd, true, dig, tr⟩ := by rw [hS]; exact if_pos h46
      have HS := Lib.hid hS2
      clear hS hS2 hd hc h46
      go_wp2
      exact HK.out (q - (i + 1)) (i + 1) _ _ (by omega) ⟨rfl, by omega, rfl⟩ (by
        rw [HS.out]
        exact F55_at _ _ _ _ _ _ _ _ _ rfl ⟨rfl, rfl, rfl, rfl, rfl, rfl, rfl, rfl, rfl, rfl, rfl, rfl, rfl, rfl, rfl, rfl, rfl, trivial⟩)
    · have g46 : ((c : Int) == 46) = false := by simp; omega
      have hc' : (48 : Int) ≤ c ∧ (c : Int) ≤ 57 := by omega
      obtain ⟨hc1, hc2⟩ := hc'
      have d1 : decide ((48 : Int) ≤ c) = true := decide_eq_true hc1
      have d2 : decide ((c : Int) ≤ 57) = true := decide_eq_true hc2
      by_cases h48 : c = 48
      · subst h48
        by_cases hn0 : nd = 0
        · subst hn0
          have hS2 : mst s (i + 1) = ⟨m, 0, k, dp - 1, dot, true, tr⟩ := by rw [hS]; rfl
          have HS := Lib.hid hS2
          clear hS hS2 hd hc
          go_wp2
          exact HK.out (q - (i + 1)) (i + 1) _ _ (by omega) ⟨rfl, by omega, rfl⟩ (by
            rw [HS.out]
            exact F55_at _ _ _ _ _ _ _ _ _ rfl ⟨rfl, rfl, rfl, rfl, rfl, rfl, rfl, rfl, rfl, rfl, rfl, rfl, rfl, rfl, rfl, rfl, rfl, trivial⟩)
        · have n0 : ((nd : Int) == 0) = false := by simp; omega
          by_cases hk : k < 19
          · have dk : decide ((k : Int) < 19) = true := decide_eq_true (by omega)
            have hmb : m < 10 ^ 18 := Nat.lt_of_lt_of_le b1 (Nat.pow_le_pow_right (by omega) (by omega))
            have hS2 : mst s (i + 1) = ⟨m * 10, nd + 1, k + 1, dp, dot, true, tr⟩ := by
              rw [hS]
              unfold MS.step
              rw [if_neg (by omega), if_neg (by simp; omega), if_pos (by exact hk)]
              simp
            have HS := Lib.hid hS2
            clear hS hS2 hd hc
            go_wp2
            exact HK.out (q - (i + 1)) (i + 1) _ _ (by omega) ⟨rfl, by omega, rfl⟩ (by
              rw [HS.out]
              exact F55_at _ _ _ _ _ _ _ _ _ rfl ⟨rfl, rfl, rfl, rfl, rfl, rfl, rfl, rfl, rfl, rfl, rfl, rfl, rfl, rfl, rfl, rfl, rfl, trivial⟩)
          · have dk : decide ((k : Int) < 19) = false := decide_eq_false (by omega)
            have hS2 : mst s (i + 1) = ⟨m, nd + 1, k, dp, dot, true, tr⟩ := by
              rw [hS]
              unfold MS.step
              rw [if_neg (by omega), if_neg (by simp; omega), if_neg (by exact hk)]
              rfl
            have HS := Lib.hid hS2
            clear hS hS2 hd hc
            go_wp2
            exact HK.out (q - (i + 1)) (i + 1) _ _ (by omega) ⟨rfl, by omega, rfl⟩ (by
              rw [HS.out]
              exact F55_at _ _ _ _ _ _ _ _ _ rfl ⟨rfl, rfl, rfl, rfl, rfl, rfl, rfl, rfl, rfl, rfl, rfl, rfl, rfl, rfl, rfl, rfl, rfl, trivial⟩)
      · have n48 : ((c : Int) == 48) = false := by simp; omega
        have n48b : ((c : Int) != 48) = true := by simp; omega
        by_cases hk : k < 19
        · have dk : decide ((k : Int) < 19) = true := decide_eq_true (by omega)
          have hmb : m < 10 ^ 18 := Nat.lt_of_lt_of_le b1 (Nat.pow_le_pow_right (by omega) (by omega))
          have hS2 : mst s (i + 1) = ⟨m * 10 + (c - 48), nd + 1, k + 1, dp, dot, true, tr⟩ := by
            rw [hS]
            unfold MS.step
            rw [if_neg (by omega), if_neg (by omega), if_pos (by exact hk)]
          have HS := Lib.hid hS2
          have HV : Hid ((m : Int) * 10 + ((c : Int) - 48) = ((m * 10 + (c - 48) : Nat) : Int)) := Lib.hid (by omega)
          clear hS hS2 hd hc
          go_wp2
          rw [HV.out]
          exact HK.out (q - (i + 1)) (i + 1) _ _ (by omega) ⟨rfl, by omega, rfl⟩ (by
            rw [HS.out]
            exact F55_at _ _ _ _ _ _ _ _ _ rfl ⟨rfl, rfl, rfl, rfl, rfl, rfl, rfl, rfl, rfl, rfl, rfl, rfl, rfl, rfl, rfl, rfl, rfl, trivial⟩)
        · have dk : decide ((k : Int) < 19) = false := decide_eq_false (by omega)
          have hS2 : mst s (i + 1) = ⟨m, nd + 1, k, dp, dot, true, true⟩ := by
            rw [hS]
            unfold MS.step
            rw [if_neg (by omega), if_neg (by omega), if_neg (by exact hk), if_neg (by omega)]
          have HS := Lib.hid hS2
          clear hS hS2 hd hc
          go_wp2
          exact HK.out (q - (i + 1)) (i + 1) _ _ (by omega) ⟨rfl, by omega, rfl⟩ (by
            rw [HS.out]
            exact F55_at _ _ _ _ _ _ _ _ _ rfl ⟨rfl, rfl, rfl, rfl, rfl, rfl, rfl, rfl, rfl, rfl, rfl, rfl, rfl, rfl, rfl, rfl, rfl, trivial⟩)

set_option maxRecDepth 100000
set_option maxHeartbeats 8000000 in
theorem rf_1_3 (s : ByteArray) (q : Nat) (ex : Int) (w : World) (hs : s.size ≤ 100) (hq : q ≤ s.size) (hq0 : 0 < q) (hM : MOk s q) (hE : EK3 s q ex) (c : Nat) (h0 : 0 < s.size) (hcc : s[0].toNat = c) (hx : decide ((2 : Int) < s.size) = true ∧ ((c : Int) == 48) = false) :
    Calls Tryd.prog 55 #[.string s] w (RfPost s (mst s q).m (rfE (mst s q) ex) (mst s q).tr w) := by
  have hc := hM.1 0 hq0
  rw [bt_eq h0, hcc] at hc
  have e1 : ((c : Int) == 43) = false := by simp; omega
  have e2 : ((c : Int) == 45) = false := by simp; omega
  have hge : decide ((0 : Int) ≥ s.size) = false := decide_eq_false (by omega)
  have hem : decide (s = ByteArray.empty) = false := decide_eq_false (by rintro rfl; exact absurd h0 (by decide))
  have hM := Lib.hid hM
  have hE := Lib.hid hE
  have hem2 : (s = ByteArray.empty) = False := by simpa using hem
  clear hc
  obtain ⟨RV, hRV⟩ : ∃ RV, rfE (mst s q) ex = RV := ⟨_, rfl⟩
  obtain ⟨RM, hRM⟩ : ∃ RM, (mst s q).m = RM := ⟨_, rfl⟩
  obtain ⟨RT, hRT⟩ : ∃ RT, (mst s q).tr = RT := ⟨_, rfl⟩
  rw [hRV, hRM, hRT]
  have HRV := Lib.hid hRV
  have HRM := Lib.hid hRM
  have HRT := Lib.hid hRT
  clear hRV hRM hRT
  obtain ⟨h21, h48⟩ := hx
  go_enter Tryd.func55, Tryd.ntmps55
  go_wp2
  go_step3
  go_wp2
  go_step3
  go_wp2
  rename_i K aK
  have REST : ∀ u, K (F55 s q (mst s q).m (mst s q).nd (mst s q).k (mst s q).dp (mst s q).dot (mst s q).dig (mst s q).tr u) w := by
    intro u
    have hdig := hM.out.2.2
    have hB := mst_b s q hM.out.1
    have HRV2 := HRV.out
    have HRM2 := HRM.out
    have HRT2 := HRT.out
    rw [F55_lit]
    refine aK _ _ ?_
    generalize mst s q = x at *
    obtain ⟨m, nd, k, dp, dot, dig, tr⟩ := x
    simp only at hdig hB HRM2 HRT2 ⊢
    subst hdig
    subst HRM2
    subst HRT2
    obtain ⟨dp0, hdp0⟩ : ∃ dp0 : Int, (if dot then dp else nd) = dp0 := ⟨_, rfl⟩
    have hRV : RV = if m = 0 then 0 else dp0 + ex - k := by rw [← HRV2, ← hdp0]; rfl
    have HRV3 := Lib.hid hRV
    have b1 : m < 10 ^ k := hB.1
    have b2 : k ≤ 19 := hB.2.1
    have b3 : nd ≤ 100 := by have := hB.2.2.1; simp only at this; omega
    have b4 : -100 ≤ dp := by have := hB.2.2.2.1; simp only at this; omega
    have b5 : dp ≤ 100 := by have := hB.2.2.2.2; simp only at this; omega
    have HE := Lib.hid hE.out
    clear hB aK HRV2 hRV HRV e1 e2 hge hem h21 hem2 hM hE
    obtain ⟨hqs, hqc, r, sg, hr, hqr, hdg, hexx, hsg⟩ := HE.out
    · have hltd : decide ((q : Int) < s.size) = true := decide_eq_true (by omega)
      obtain ⟨cq, hcq⟩ : ∃ c : Nat, s[q].toNat = c := ⟨_, rfl⟩
      rw [bt_eq hqs, hcq] at hqc
      have hlow := low101 cq hqc
      have hl2 : q + 1 < s.size := by omega
      have hq2 : decide ((q : Int) + 1 ≥ s.size) = false := decide_eq_false (by omega)
      obtain ⟨w4, w5, w3, w2, w1⟩ := idx1 hs hl2
      have HD := Lib.hid hdg
      have HEX := Lib.hid hexx
      clear hqc hdg hexx HE
      obtain ⟨c1, hc1⟩ : ∃ c : Nat, s[q + 1].toNat = c := ⟨_, rfl⟩
      rw [bt_eq hl2, hc1] at hsg
      obtain ⟨hrq, hcs, hsg⟩ := hsg
      · have s1 : ((c1 : Int) == 43) = false := by simp; omega
        have s2 : ((c1 : Int) == 45) = true := by simp; omega
        subst hrq
        subst hsg
        have HDP := Lib.hid hdp0
        clear hdp0
        have hl3 : q + 2 < s.size := hr
        have hd2 := HD.out (q + 2) (Nat.le_refl _) hl3
        obtain ⟨c2, hc2⟩ : ∃ c : Nat, s[q + 2].toNat = c := ⟨_, rfl⟩
        rw [bt_eq hl3, hc2] at hd2
        have s3 : decide ((c2 : Int) < 48) = false := decide_eq_false (by omega)
        have s4 : decide ((c2 : Int) > 57) = false := decide_eq_false (by omega)
        have hq3 : decide ((q : Int) + 2 ≥ s.size) = false := decide_eq_false (by omega)
        have v1 : (q : Int) + 2 < s.size := by omega
        have v2 : (0 : Int) ≤ q + 2 := by omega
        have v3 : ((q : Int) + 2).toNat = q + 2 := by omega
        cases dot
        · have hdotd : (if false = true then dp else (nd : Int)) = nd := if_neg (by decide)
          go_wp2
          rename_i K1 aK1 K2 aK2
          have R2 : ∀ u, K2 (F55e s s.size m k (nd : Int) (-1) (est s (q + 2) (s.size - (q + 2))) tr u) w := by
            intro u
            rw [F55e_lit]
            refine aK2 _ _ ?_
            have hEb := est_b s (q + 2) (s.size - (q + 2)) fun j hj => (HD.out _ (by omega) (by omega)).2
            have HEX2 := HEX.out
            generalize est s (q + 2) (s.size - (q + 2)) = E at *
            by_cases hm0 : m = 0
            · have hmd : ((m : Int) != 0) = false := by simp [hm0]
              have HM0 := Lib.hid hm0
              clear hm0
              go_wp2
              refine bodyPost_ret (results_tmp7 rfl _ _ _) rfl ?_
              refine ⟨?_, rfl⟩
              rw [HRV3.out, if_pos HM0.out]
              rfl
            · have hmd : ((m : Int) != 0) = true := by simp [hm0]
              have HM0 := Lib.hid hm0
              clear hm0
              go_wp2
              refine bodyPost_ret (results_tmp7 rfl _ _ _) rfl ?_
              refine ⟨?_, rfl⟩
              rw [HRV3.out, if_neg HM0.out, ← HDP.out, HEX2]
              refine congrArg (fun v => Ending.returned (.tuple #[.int .u64 m, .int .i64 v, .bool false, .bool tr, .bool false, .int .i64 s.size, .bool true])) ?_
              simp only [hdotd]
              omega
          have RS2 := Lib.hid R2
          clear R2 aK1 aK2 HEX
          refine wp_loop_x (fun (x : Nat) => F55e s x m k (nd : Int) (-1) (est s (q + 2) (x - (q + 2))) tr) (fun n x w' => n = s.size - x ∧ (q + 2) ≤ x ∧ x ≤ s.size ∧ w' = w) (s.size - (q + 2)) (q + 2) ⟨rfl, Nat.le_refl _, by omega, rfl⟩ (by
            rw [Nat.sub_self]
            exact F55e_at _ _ _ _ _ _ _ _ rfl ⟨rfl, rfl, rfl, rfl, rfl, rfl, rfl, rfl, rfl, rfl, rfl, rfl, rfl, rfl, rfl, trivial⟩) ?_
          intro n i u wr hrel K3 hK3
          obtain ⟨hn, hi1, hi2, rfl⟩ := hrel
          have HK3 := Lib.hid hK3; clear hK3
          clear s1 s2 hltd hq2 w1 w2 w3 w4 w5 hlow
          rw [F55e_lit]
          by_cases his : i = s.size
          · have hq1 : decide ((i : Int) < s.size) = false := decide_eq_false (by omega)
            subst his
            go_wp2
            exact Eq.mp (congrArg (fun a => K2 a _) (F55e_at _ _ _ _ _ _ _ _ rfl ⟨rfl, rfl, rfl, rfl, rfl, rfl, rfl, rfl, rfl, rfl, rfl, rfl, rfl, rfl, rfl, trivial⟩)) (RS2.out _)
          · have hlt : i < s.size := by omega
            have hltd : decide ((i : Int) < s.size) = true := decide_eq_true (by omega)
            have hc := HD.out i hi1 hlt
            have hS : est s (q + 2) (i + 1 - (q + 2)) = if est s (q + 2) (i - (q + 2)) < 10000 then est s (q + 2) (i - (q + 2)) * 10 + (bt s i - 48) else est s (q + 2) (i - (q + 2)) := by
              rw [show i + 1 - (q + 2) = i - (q + 2) + 1 by omega, est, show (q + 2) + (i - (q + 2)) = i by omega]
            obtain ⟨cc, hcc⟩ : ∃ c : Nat, s[i].toNat = c := ⟨_, rfl⟩
            rw [bt_eq hlt, hcc] at hc hS
            generalize est s (q + 2) (i - (q + 2)) = E at *
            have g95 : ((cc : Int) == 95) = false := by simp; omega
            have g48 : decide ((48 : Int) ≤ cc) = true := decide_eq_true (by omega)
            have g57 : decide ((cc : Int) ≤ 57) = true := decide_eq_true (by omega)
            by_cases hE1 : E < 10000
            · rw [if_pos hE1] at hS
              have gE : decide ((E : Int) < 10000) = true := decide_eq_true (by omega)
              have HS := Lib.hid hS
              have HV : Hid ((E : Int) * 10 + (cc : Int) - 48 = ((E * 10 + (cc - 48) : Nat) : Int)) := Lib.hid (by omega)
              clear hS
              go_wp2
              rw [HV.out]
              exact HK3.out (s.size - (i + 1)) (i + 1) _ _ (by omega) ⟨rfl, by omega, by omega, rfl⟩ (by
                rw [HS.out]
                exact F55e_at _ _ _ _ _ _ _ _ rfl ⟨rfl, rfl, rfl, rfl, rfl, rfl, rfl, rfl, rfl, rfl, rfl, rfl, rfl, rfl, rfl, trivial⟩)
            · rw [if_neg hE1] at hS
              have gE : decide ((E : Int) < 10000) = false := decide_eq_false (by omega)
              have HS := Lib.hid hS
              clear hS
              go_wp2
              exact HK3.out (s.size - (i + 1)) (i + 1) _ _ (by omega) ⟨rfl, by omega, by omega, rfl⟩ (by
                rw [HS.out]
                exact F55e_at _ _ _ _ _ _ _ _ rfl ⟨rfl, rfl, rfl, rfl, rfl, rfl, rfl, rfl, rfl, rfl, rfl, rfl, rfl, rfl, rfl, trivial⟩)
        · have hdotd : (if true = true then dp else (nd : Int)) = dp := if_pos rfl
          go_wp2
          rename_i K1 aK1 K2 aK2
          have R2 : ∀ u, K2 (F55e s s.size m k dp (-1) (est s (q + 2) (s.size - (q + 2))) tr u) w := by
            intro u
            rw [F55e_lit]
            refine aK2 _ _ ?_
            have hEb := est_b s (q + 2) (s.size - (q + 2)) fun j hj => (HD.out _ (by omega) (by omega)).2
            have HEX2 := HEX.out
            generalize est s (q + 2) (s.size - (q + 2)) = E at *
            by_cases hm0 : m = 0
            · have hmd : ((m : Int) != 0) = false := by simp [hm0]
              have HM0 := Lib.hid hm0
              clear hm0
              go_wp2
              refine bodyPost_ret (results_tmp7 rfl _ _ _) rfl ?_
              refine ⟨?_, rfl⟩
              rw [HRV3.out, if_pos HM0.out]
              rfl
            · have hmd : ((m : Int) != 0) = true := by simp [hm0]
              have HM0 := Lib.hid hm0
              clear hm0
              go_wp2
              refine bodyPost_ret (results_tmp7 rfl _ _ _) rfl ?_
              refine ⟨?_, rfl⟩
              rw [HRV3.out, if_neg HM0.out, ← HDP.out, HEX2]
              refine congrArg (fun v => Ending.returned (.tuple #[.int .u64 m, .int .i64 v, .bool false, .bool tr, .bool false, .int .i64 s.size, .bool true])) ?_
              simp only [hdotd]
              omega
          have RS2 := Lib.hid R2
          clear R2 aK1 aK2 HEX
          refine wp_loop_x (fun (x : Nat) => F55e s x m k dp (-1) (est s (q + 2) (x - (q + 2))) tr) (fun n x w' => n = s.size - x ∧ (q + 2) ≤ x ∧ x ≤ s.size ∧ w' = w) (s.size - (q + 2)) (q + 2) ⟨rfl, Nat.le_refl _, by omega, rfl⟩ (by
            rw [Nat.sub_self]
            exact F55e_at _ _ _ _ _ _ _ _ rfl ⟨rfl, rfl, rfl, rfl, rfl, rfl, rfl, rfl, rfl, rfl, rfl, rfl, rfl, rfl, rfl, trivial⟩) ?_
          intro n i u wr hrel K3 hK3
          obtain ⟨hn, hi1, hi2, rfl⟩ := hrel
          have HK3 := Lib.hid hK3; clear hK3
          clear s1 s2 hltd hq2 w1 w2 w3 w4 w5 hlow
          rw [F55e_lit]
          by_cases his : i = s.size
          · have hq1 : decide ((i : Int) < s.size) = false := decide_eq_false (by omega)
            subst his
            go_wp2
            exact Eq.mp (congrArg (fun a => K2 a _) (F55e_at _ _ _ _ _ _ _ _ rfl ⟨rfl, rfl, rfl, rfl, rfl, rfl, rfl, rfl, rfl, rfl, rfl, rfl, rfl, rfl, rfl, trivial⟩)) (RS2.out _)
          · have hlt : i < s.size := by omega
            have hltd : decide ((i : Int) < s.size) = true := decide_eq_true (by omega)
            have hc := HD.out i hi1 hlt
            have hS : est s (q + 2) (i + 1 - (q + 2)) = if est s (q + 2) (i - (q + 2)) < 10000 then est s (q + 2) (i - (q + 2)) * 10 + (bt s i - 48) else est s (q + 2) (i - (q + 2)) := by
              rw [show i + 1 - (q + 2) = i - (q + 2) + 1 by omega, est, show (q + 2) + (i - (q + 2)) = i by omega]
            obtain ⟨cc, hcc⟩ : ∃ c : Nat, s[i].toNat = c := ⟨_, rfl⟩
            rw [bt_eq hlt, hcc] at hc hS
            generalize est s (q + 2) (i - (q + 2)) = E at *
            have g95 : ((cc : Int) == 95) = false := by simp; omega
            have g48 : decide ((48 : Int) ≤ cc) = true := decide_eq_true (by omega)
            have g57 : decide ((cc : Int) ≤ 57) = true := decide_eq_true (by omega)
            by_cases hE1 : E < 10000
            · rw [if_pos hE1] at hS
              have gE : decide ((E : Int) < 10000) = true := decide_eq_true (by omega)
              have HS := Lib.hid hS
              have HV : Hid ((E : Int) * 10 + (cc : Int) - 48 = ((E * 10 + (cc - 48) : Nat) : Int)) := Lib.hid (by omega)
              clear hS
              go_wp2
              rw [HV.out]
              exact HK3.out (s.size - (i + 1)) (i + 1) _ _ (by omega) ⟨rfl, by omega, by omega, rfl⟩ (by
                rw [HS.out]
                exact F55e_at _ _ _ _ _ _ _ _ rfl ⟨rfl, rfl, rfl, rfl, rfl, rfl, rfl, rfl, rfl, rfl, rfl, rfl, rfl, rfl, rfl, trivial⟩)
            · rw [if_neg hE1] at hS
              have gE : decide ((E : Int) < 10000) = false := decide_eq_false (by omega)
              have HS := Lib.hid hS
              clear hS
              go_wp2
              exact HK3.out (s.size - (i + 1)) (i + 1) _ _ (by omega) ⟨rfl, by omega, by omega, rfl⟩ (by
                rw [HS.out]
                exact F55e_at _ _ _ _ _ _ _ _ rfl ⟨rfl, rfl, rfl, rfl, rfl, rfl, rfl, rfl, rfl, rfl, rfl, rfl, rfl, rfl, rfl, trivial⟩)
  have RS := Lib.hid REST
  clear REST aK
  refine wp_loop_x (fun (x : Nat) => F55 s x (mst s x).m (mst s x).nd (mst s x).k (mst s x).dp (mst s x).dot (mst s x).dig (mst s x).tr) (fun n x w' => n = q - x ∧ x ≤ q ∧ w' = w) q 0 ⟨rfl, Nat.zero_le _, rfl⟩ (F55_at _ _ _ _ _ _ _ _ _ rfl ⟨rfl, rfl, rfl, rfl, rfl, rfl, rfl, rfl, rfl, rfl, rfl, rfl, rfl, rfl, rfl, rfl, rfl, trivial⟩) ?_
  intro n i u wr hrel K2 hK2
  obtain ⟨hn, hi, rfl⟩ := hrel
  have HK := Lib.hid hK2; clear hK2
  clear e1 e2 hge hem h21 hem2
  rw [F55_lit]
  by_cases hiq : i = q
  · subst hiq
    obtain ⟨hqs, hqc, -⟩ := hE.out
    · have hltd : decide ((i : Int) < s.size) = true := decide_eq_true (by omega)
      obtain ⟨c, hcc⟩ : ∃ c : Nat, s[i].toNat = c := ⟨_, rfl⟩
      rw [bt_eq hqs, hcc] at hqc
      have g95 : ((c : Int) == 95) = false := by simp; omega
      have g46 : ((c : Int) == 46) = false := by simp; omega
      have g48 : decide ((48 : Int) ≤ c) = true := decide_eq_true (by omega)
      have g57 : decide ((c : Int) ≤ 57) = false := decide_eq_false (by omega)
      generalize hx : mst s i = x at *
      obtain ⟨m, nd, k, dp, dot, dig, tr⟩ := x
      simp only at RS ⊢
      clear hqc
      go_wp2
      exact Eq.mp (congrArg (fun a => K a _) (F55_at _ _ _ _ _ _ _ _ _ rfl ⟨rfl, rfl, rfl, rfl, rfl, rfl, rfl, rfl, rfl, rfl, rfl, rfl, rfl, rfl, rfl, rfl, rfl, trivial⟩)) (RS.out _)
  · have hlt : i < s.size := by omega
    have hB := mst_b s i fun j hj => hM.out.1 j (by omega)
    have hS : mst s (i + 1) = (mst s i).step (bt s i) := rfl
    obtain ⟨c, hcc⟩ : ∃ c : Nat, s[i].toNat = c := ⟨_, rfl⟩
    have hc := hM.out.1 i (by omega)
    have hd := hM.out.2.1 i (by omega)
    rw [bt_eq hlt, hcc] at hc hS hd
    generalize mst s i = x at *
    obtain ⟨m, nd, k, dp, dot, dig, tr⟩ := x
    simp only at hB hd ⊢
    have b1 : m < 10 ^ k := hB.1
    have b2 : k ≤ 19 := hB.2.1
    have b3 : nd ≤ 100 := by have := hB.2.2.1; simp only at this; omega
    have b4 : -100 ≤ dp := by have := hB.2.2.2.1; simp only at this; omega
    have b5 : dp ≤ 100 := by have := hB.2.2.2.2; simp only at this; omega
    clear hB
    have hltd : decide ((i : Int) < s.size) = true := decide_eq_true (by omega)
    have g95 : ((c : Int) == 95) = false := by simp; omega
    by_cases h46 : c = 46
    · have g46 : ((c : Int) == 46) = true := by simp; omega
      have hdot : dot = false := hd h46
      subst hdot
      have hS2 : mst s (i + 1) = ⟨m, nd, k, nd, true, dig, tr⟩ := by rw [hS]; exact if_pos h46
      have HS := Lib.hid hS2
      clear hS hS2 hd hc h46
      go_wp2
      exact HK.out (q - (i + 1)) (i + 1) _ _ (by omega) ⟨rfl, by omega, rfl⟩ (by
        rw [HS.out]
        exact F55_at _ _ _ _ _ _ _ _ _ rfl ⟨rfl, rfl, rfl, rfl, rfl, rfl, rfl, rfl, rfl, rfl, rfl, rfl, rfl, rfl, rfl, rfl, rfl, trivial⟩)
    · have g46 : ((c : Int) == 46) = false := by simp; omega
      have hc' : (48 : Int) ≤ c ∧ (c : Int) ≤ 57 := by omega
      obtain ⟨hc1, hc2⟩ := hc'
      have d1 : decide ((48 : Int) ≤ c) = true := decide_eq_true hc1
      have d2 : decide ((c : Int) ≤ 57) = true := decide_eq_true hc2
      by_cases h48 : c = 48
      · subst h48
        by_cases hn0 : nd = 0
        · subst hn0
          have hS2 : mst s (i + 1) = ⟨m, 0, k, dp - 1, dot, true, tr⟩ := by rw [hS]; rfl
          have HS := Lib.hid hS2
          clear hS hS2 hd hc
          go_wp2
          exact HK.out (q - (i + 1)) (i + 1) _ _ (by omega) ⟨rfl, by omega, rfl⟩ (by
            rw [HS.out]
            exact F55_at _ _ _ _ _ _ _ _ _ rfl ⟨rfl, rfl, rfl, rfl, rfl, rfl, rfl, rfl, rfl, rfl, rfl, rfl, rfl, rfl, rfl, rfl, rfl, trivial⟩)
        · have n0 : ((nd : Int) == 0) = false := by simp; omega
          by_cases hk : k < 19
          · have dk : decide ((k : Int) < 19) = true := decide_eq_true (by omega)
            have hmb : m < 10 ^ 18 := Nat.lt_of_lt_of_le b1 (Nat.pow_le_pow_right (by omega) (by omega))
            have hS2 : mst s (i + 1) = ⟨m * 10, nd + 1, k + 1, dp, dot, true, tr⟩ := by
              rw [hS]
              unfold MS.step
              rw [if_neg (by omega), if_neg (by simp; omega), if_pos (by exact hk)]
              simp
            have HS := Lib.hid hS2
            clear hS hS2 hd hc
            go_wp2
            exact HK.out (q - (i + 1)) (i + 1) _ _ (by omega) ⟨rfl, by omega, rfl⟩ (by
              rw [HS.out]
              exact F55_at _ _ _ _ _ _ _ _ _ rfl ⟨rfl, rfl, rfl, rfl, rfl, rfl, rfl, rfl, rfl, rfl, rfl, rfl, rfl, rfl, rfl, rfl, rfl, trivial⟩)
          · have dk : decide ((k : Int) < 19) = false := decide_eq_false (by omega)
            have hS2 : mst s (i + 1) = ⟨m, nd + 1, k, dp, dot, true, tr⟩ := by
              rw [hS]
              unfold MS.step
              rw [if_neg (by omega), if_neg (by simp; omega), if_neg (by exact hk)]
              rfl
            have HS := Lib.hid hS2
            clear hS hS2 hd hc
            go_wp2
            exact HK.out (q - (i + 1)) (i + 1) _ _ (by omega) ⟨rfl, by omega, rfl⟩ (by
              rw [HS.out]
              exact F55_at _ _ _ _ _ _ _ _ _ rfl ⟨rfl, rfl, rfl, rfl, rfl, rfl, rfl, rfl, rfl, rfl, rfl, rfl, rfl, rfl, rfl, rfl, rfl, trivial⟩)
      · have n48 : ((c : Int) == 48) = false := by simp; omega
        have n48b : ((c : Int) != 48) = true := by simp; omega
        by_cases hk : k < 19
        · have dk : decide ((k : Int) < 19) = true := decide_eq_true (by omega)
          have hmb : m < 10 ^ 18 := Nat.lt_of_lt_of_le b1 (Nat.pow_le_pow_right (by omega) (by omega))
          have hS2 : mst s (i + 1) = ⟨m * 10 + (c - 48), nd + 1, k + 1, dp, dot, true, tr⟩ := by
            rw [hS]
            unfold MS.step
            rw [if_neg (by omega), if_neg (by omega), if_pos (by exact hk)]
          have HS := Lib.hid hS2
          have HV : Hid ((m : Int) * 10 + ((c : Int) - 48) = ((m * 10 + (c - 48) : Nat) : Int)) := Lib.hid (by omega)
          clear hS hS2 hd hc
          go_wp2
          rw [HV.out]
          exact HK.out (q - (i + 1)) (i + 1) _ _ (by omega) ⟨rfl, by omega, rfl⟩ (by
            rw [HS.out]
            exact F55_at _ _ _ _ _ _ _ _ _ rfl ⟨rfl, rfl, rfl, rfl, rfl, rfl, rfl, rfl, rfl, rfl, rfl, rfl, rfl, rfl, rfl, rfl, rfl, trivial⟩)
        · have dk : decide ((k : Int) < 19) = false := decide_eq_false (by omega)
          have hS2 : mst s (i + 1) = ⟨m, nd + 1, k, dp, dot, true, true⟩ := by
            rw [hS]
            unfold MS.step
            rw [if_neg (by omega), if_neg (by omega), if_neg (by exact hk), if_neg (by omega)]
          have HS := Lib.hid hS2
          clear hS hS2 hd hc
          go_wp2
          exact HK.out (q - (i + 1)) (i + 1) _ _ (by omega) ⟨rfl, by omega, rfl⟩ (by
            rw [HS.out]
            exact F55_at _ _ _ _ _ _ _ _ _ rfl ⟨rfl, rfl, rfl, rfl, rfl, rfl, rfl, rfl, rfl, rfl, rfl, rfl, rfl, rfl, rfl, rfl, rfl, trivial⟩)

end Go.Proofs.YtblphppdfiipfaaDoor
