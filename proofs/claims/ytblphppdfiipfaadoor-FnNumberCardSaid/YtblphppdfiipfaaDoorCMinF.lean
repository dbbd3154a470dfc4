/- minify.Number joined. Conditions: none. -/
import Derived.Test.YtblphppdfiipfaaDoorCMinC
import Derived.Test.YtblphppdfiipfaaDoorCMinD
import Derived.Test.YtblphppdfiipfaaDoorCMinE
import Derived.Test.YtblphppdfiipfaaDoorCMinA
namespace Go.Proofs.YtblphppdfiipfaaDoor
open Go.RowKit
set_option maxRecDepth 100000

def Fin9 (g N cap n : Nat) (d : Nat → Nat) (E : Int) (w : World) (K : Act → World → Prop) : Prop :=
  ∀ (S e' : Nat) (c' : Nat → Nat) (a : Act) (w' : World), Blk w' g N c' → w.grownBy w' (some g) → S < e' → e' ≤ N → Res (fun j => c' (S + j)) (e' - S) n d E → (F9z g N cap S e' fun k => a.tmps.getD k undef) = a → K a w'
theorem lenI_neg {z : Nat} (h : 1 ≤ z) : lenI (-(z : Int)) = 1 + dl z := by
  unfold lenI
  rw [if_pos (by omega)]; congr 2; omega
set_option maxHeartbeats 2000000 in
theorem n9_e132 (g N cap q k st e n : Nat) (c d : Nat → Nat) (ex nx E : Int) (w : World) (K : Act → World → Prop) (Q : Exit → Act → World → Prop) (a : Act)
    (ha : (F9m g N cap st k e ex n E (E - n) (lenI (E - n)) (lenI E) fun k => a.tmps.getD k undef) = a) (hI : In9 c N q k ex) (hB : Blk w g N c) (hc : N ≤ cap) (hKE : KE c q k st e n nx d) (hE : E = nx + ex) (hnE : E < n)
    (hno : E < -3 → lenI E < lenI (E - n) → k < e → False) (hfin : Fin9 g N cap n d E w K) :
    Code.wp Tryd.prog (c9 [false, true, true, true, true]) (Exit.then K Q) a w := by
  obtain ⟨hE1, hE2, _, _, hn100, _⟩ := room0 hI hKE hE
  rw [← ha]
  clear ha
  generalize (fun k => a.tmps.getD k undef) = u
  conv => arg 2; whnf
  rw [F9m_lit, sg825_36, sg825_63, sg825_677]
  obtain ⟨X, hX⟩ : ∃ X, E - n = X := ⟨_, rfl⟩
  obtain ⟨lX, hlX⟩ : ∃ l, lenI X = l := ⟨_, rfl⟩
  obtain ⟨lE, hlE⟩ : ∃ l, lenI E = l := ⟨_, rfl⟩
  have hlX6 : lX ≤ 6 := by
    rw [← hlX]; unfold lenI
    have := dl_cases X.natAbs (by omega)
    split <;> omega
  rw [hX, hlX, hlE]
  rw [hX, hlX, hlE] at hno
  have HX := Lib.hid hX
  have HLX := Lib.hid hlX
  have HLE := Lib.hid hlE
  have HNO := Lib.hid hno
  have HE := Lib.hid hE
  have HB := Lib.hid hB
  clear hX hlX hlE hno hE hB
  refine wp_seq_h ?_
  intro K2 HK2
  by_cases h4 : -(lX : Int) ≤ E
  · have g1 : decide (-(lX : Int) ≤ E) = true := decide_eq_true h4
    go_wp2
    apply HK2.out
    clear HK2 K2
    refine wp_cond (t := true) rfl ?_
    rw [if_pos rfl]
    refine wp_seq_h ?_
    intro K2 HK2
    go_wp2
    apply HK2.out
    clear HK2 K2
    refine wp_seq_h ?_
    intro K2 HK2
    by_cases h0 : E < 0
    · have g2 : decide (0 < -E) = true := decide_eq_true (by omega)
      have g3 : decide (E < 0) = true := decide_eq_true h0
      go_wp2
      apply HK2.out
      clear HK2 K2
      refine wp_cond (t := true) rfl ?_
      rw [if_pos rfl]
      obtain ⟨z, hz⟩ : ∃ z : Nat, E = -(z : Int) := ⟨E.natAbs, by omega⟩
      have hz1 : 1 ≤ z := by omega
      have hlz : lX = 1 + dl (z + n) := by
        rw [← HLX.out, ← HX.out, hz, show -(z : Int) - n = -((z + n : Nat) : Int) by omega]; exact lenI_neg (by omega)
      have hlz2 : lE = 1 + dl z := by rw [← HLE.out, hz]; exact lenI_neg hz1
      have hz2 : z ≤ 1 + dl (z + n) := by omega
      have hz3 : E < -3 → dl z + 1 < 1 + dl (z + n) → k < e → False := fun h1 h2 h3 => HNO.out h1 (by omega) h3
      refine wp_code (c := c9 [false, true, true, true, true, true, false, true, true, false]) (by kernel_rfl) ?_
      rcases hKE with h | h | h
      · exact n9_3ai g N cap q k st e n z c d ex nx E w K Q _ (F9i_at _ _ _ _ _ _ _ _ rfl ⟨rfl, rfl, rfl, rfl, rfl, rfl, rfl, vi (by omega), trivial⟩) hI HB.out hc hz3 (.inl h) h HE.out hnE hz hz1 hz2 hfin
      · exact n9_3aii g N cap q k st e n z c d ex nx E w K Q _ (F9i_at _ _ _ _ _ _ _ _ rfl ⟨rfl, rfl, rfl, rfl, rfl, rfl, rfl, vi (by omega), trivial⟩) hI HB.out hc hz3 (.inr (.inl h)) h HE.out hnE hz hz1 hz2 hfin
      · exact n9_3aiii g N cap q k st e n z c d ex nx E w K Q _ (F9i_at _ _ _ _ _ _ _ _ rfl ⟨rfl, rfl, rfl, rfl, rfl, rfl, rfl, vi (by omega), trivial⟩) hI HB.out hc hz3 (.inr (.inr h)) h HE.out hnE hz hz1 hz2 hfin
    · have g2 : decide (0 < -E) = false := decide_eq_false (by omega)
      have g3 : decide (E < 0) = false := decide_eq_false h0
      go_wp2
      apply HK2.out
      clear HK2 K2
      refine wp_cond (t := false) rfl ?_
      rw [if_neg (by decide)]
      refine wp_code (c := c9 [false, true, true, true, true, true, false, true, true, true]) (by kernel_rfl) ?_
      rcases hKE with h | h | h
      · exact n9_3bi g N cap q k st e n lX lE c d ex nx E X w K Q _ (F9m_at _ _ _ _ _ _ _ _ _ _ _ _ rfl ⟨rfl, rfl, rfl, rfl, rfl, rfl, rfl, rfl, rfl, rfl, rfl, rfl, trivial⟩) hI HB.out hc (.inl h) h HE.out hnE (by omega) hfin
      · exact n9_3bii g N cap q k st e n lX lE c d ex nx E X w K Q _ (F9m_at _ _ _ _ _ _ _ _ _ _ _ _ rfl ⟨rfl, rfl, rfl, rfl, rfl, rfl, rfl, rfl, rfl, rfl, rfl, rfl, trivial⟩) hI HB.out hc (.inr (.inl h)) h HE.out hnE (by omega) hfin
      · exact n9_3biii g N cap q k st e n lX lE c d ex nx E X w K Q _ (F9m_at _ _ _ _ _ _ _ _ _ _ _ _ rfl ⟨rfl, rfl, rfl, rfl, rfl, rfl, rfl, rfl, rfl, rfl, rfl, rfl, trivial⟩) hI HB.out hc (.inr (.inr h)) h HE.out hnE (by omega) hfin
  · have g1 : decide (-(lX : Int) ≤ E) = false := decide_eq_false h4
    go_wp2
    apply HK2.out
    clear HK2 K2
    refine wp_cond (t := false) rfl ?_
    rw [if_neg (by decide)]
    refine wp_code (c := c9 [false, true, true, true, true, true, true]) (by kernel_rfl) ?_
    have hlt : E < -(lenI (E - n) : Int) := by rw [HX.out, HLX.out]; omega
    have FR := @F9m_at g N cap st k e ex n E (E - n) (lenI (E - n)) lE
    rcases hKE with h | h | h
    · exact n9_c4a g N cap q k st e n lE c d ex nx E w K Q _ (F9m_at _ _ _ _ _ _ _ _ _ _ _ _ rfl ⟨rfl, rfl, rfl, rfl, rfl, rfl, rfl, rfl, rfl, vi HX.out.symm, vi (by rw [HX.out, HLX.out]), rfl, trivial⟩) hI HB.out hc (.inl h) h HE.out hnE hlt hfin
    · exact n9_c4b g N cap q k st e n lE c d ex nx E w K Q _ (F9m_at _ _ _ _ _ _ _ _ _ _ _ _ rfl ⟨rfl, rfl, rfl, rfl, rfl, rfl, rfl, rfl, rfl, vi HX.out.symm, vi (by rw [HX.out, HLX.out]), rfl, trivial⟩) hI HB.out hc (.inr (.inl h)) h HE.out hnE hlt hfin
    · exact n9_c4c g N cap q k st e n lE c d ex nx E w K Q _ (F9m_at _ _ _ _ _ _ _ _ _ _ _ _ rfl ⟨rfl, rfl, rfl, rfl, rfl, rfl, rfl, rfl, rfl, vi HX.out.symm, vi (by rw [HX.out, HLX.out]), rfl, trivial⟩) hI HB.out hc (.inr (.inr h)) h HE.out hnE hlt hfin

set_option maxHeartbeats 2000000 in
theorem n9_d (g N cap q k st e n : Nat) (c d : Nat → Nat) (ex nx E : Int) (w : World) (Post : Ending → World → Prop) (a : Act)
    (ha : (F9m g N cap st k e ex n E (E - n) (lenI (E - n)) (lenI E) fun k => a.tmps.getD k undef) = a) (hI : In9 c N q k ex) (hB : Blk w g N c) (hc : N ≤ cap) (hKE : KE c q k st e n nx d) (hE : E = nx + ex)
    (hret : Post (.returned (.slice (some ⟨g, 0, none⟩) N cap)) w)
    (hfin : ∀ (S e' capx : Nat) (c' : Nat → Nat) (w' : World), Blk w' g N c' → w.grownBy w' (some g) → S < e' → e' ≤ N → Res (fun j => c' (S + j)) (e' - S) n d E → Post (.returned (.slice (some ⟨g, S, none⟩) (e' - S) capx)) w') :
    Code.wp Tryd.prog (t9 23) (bodyPost Tryd.prog Tryd.f9 Post) a w := by
  rw [← ha]
  clear ha
  generalize (fun k => a.tmps.getD k undef) = u
  conv => arg 2; whnf
  rw [F9m_lit, sg825_36, sg825_63, sg825_677]
  refine wp_seq_k ?_
  intro K24 hK24
  have NX : Hid (Fin9 g N cap n d E w K24) := Lib.hid fun S e' c' a w' h1 h2 h3 h4 h5 h6 => hK24 _ _ (wp_code (c := t9 24) (by kernel_rfl) (n9_z g N cap S e' w' Post a h6 h3 h4 hc fun capx => hfin S e' capx c' w' h1 h2 h3 h4 h5))
  have HRET := Lib.hid hret
  clear hK24 hfin hret
  obtain ⟨X, hX⟩ : ∃ X, E - n = X := ⟨_, rfl⟩
  obtain ⟨lX, hlX⟩ : ∃ l, lenI X = l := ⟨_, rfl⟩
  obtain ⟨lE, hlE⟩ : ∃ l, lenI E = l := ⟨_, rfl⟩
  rw [hX, hlX, hlE]
  have HX := Lib.hid hX
  have HLX := Lib.hid hlX
  have HLE := Lib.hid hlE
  have HE := Lib.hid hE
  have HB := Lib.hid hB
  clear hX hlX hlE hE hB
  refine wp_seq_h ?_
  intro K2 HK2
  by_cases hnE : n ≤ E
  · have g1 : decide ((n : Int) ≤ E) = true := decide_eq_true hnE
    go_wp2
    apply HK2.out
    clear HK2 K2
    refine wp_cond (t := true) rfl ?_
    rw [if_pos rfl]
    refine wp_code (c := c9 [false, true, false]) (by kernel_rfl) ?_
    exact n9_c1 g N cap q k st e n lE c d ex nx E w K24 _ _ (F9m_at _ _ _ _ _ _ _ _ _ _ _ _ rfl ⟨rfl, rfl, rfl, rfl, rfl, rfl, rfl, rfl, rfl, vi HX.out.symm, vi (by rw [HX.out, HLX.out]), rfl, trivial⟩) hI HB.out hc hKE HE.out hnE NX.out
  · have g1 : decide ((n : Int) ≤ E) = false := decide_eq_false hnE
    go_wp2
    apply HK2.out
    clear HK2 K2 g1
    refine wp_cond (t := false) rfl ?_
    rw [if_neg (by decide)]
    refine wp_seq_h ?_
    intro K2 HK2
    have hEn : E < n := by omega
    by_cases hA : E < -3
    · have g1 : decide (E < -3) = true := decide_eq_true hA
      by_cases hL : lE < lX
      · have g2 : decide ((lE : Int) < lX) = true := decide_eq_true (by omega)
        by_cases hk : k < e
        · have g3 : decide ((k : Int) < e) = true := decide_eq_true (by omega)
          go_wp2
          apply HK2.out
          clear HK2 K2
          refine wp_cond (t := true) rfl ?_
          rw [if_pos rfl]
          refine wp_code (c := c9 [false, true, true, true, false]) (by kernel_rfl) ?_
          rcases hKE with h | h | h
          · exact n9_c2i g N cap q k st e n lX lE c d ex nx E X w K24 Post _ (F9m_at _ _ _ _ _ _ _ _ _ _ _ _ rfl ⟨rfl, rfl, rfl, rfl, rfl, rfl, rfl, rfl, rfl, rfl, rfl, rfl, trivial⟩) hI HB.out hc (.inl h) h HE.out hA HX.out.symm HLX.out.symm HLE.out.symm hL HRET.out NX.out
          · exfalso
            have h1 := h.2.1.hn
            have h2 := h.2.2.1
            omega
          · exact n9_c2iii g N cap q k st e n lX lE c d ex nx E X w K24 _ _ (F9m_at _ _ _ _ _ _ _ _ _ _ _ _ rfl ⟨rfl, rfl, rfl, rfl, rfl, rfl, rfl, rfl, rfl, rfl, rfl, rfl, trivial⟩) hI HB.out hc (.inr (.inr h)) h HE.out hA HX.out.symm HLX.out.symm HLE.out.symm hL NX.out
        · have g3 : decide ((k : Int) < e) = false := decide_eq_false (by omega)
          go_wp2
          apply HK2.out
          clear HK2 K2
          refine wp_cond (t := false) rfl ?_
          rw [if_neg (by decide)]
          refine wp_code (c := c9 [false, true, true, true, true]) (by kernel_rfl) ?_
          exact n9_e132 g N cap q k st e n c d ex nx E w K24 _ _ (F9m_at _ _ _ _ _ _ _ _ _ _ _ _ rfl ⟨rfl, rfl, rfl, rfl, rfl, rfl, rfl, rfl, rfl, vi HX.out.symm, vi (by rw [HX.out, HLX.out]), vi (by rw [HLE.out]), trivial⟩) hI HB.out hc hKE HE.out hEn (fun _ _ h => hk h) NX.out
      · have g2 : decide ((lE : Int) < lX) = false := decide_eq_false (by omega)
        go_wp2
        apply HK2.out
        clear HK2 K2
        refine wp_cond (t := false) rfl ?_
        rw [if_neg (by decide)]
        refine wp_code (c := c9 [false, true, true, true, true]) (by kernel_rfl) ?_
        exact n9_e132 g N cap q k st e n c d ex nx E w K24 _ _ (F9m_at _ _ _ _ _ _ _ _ _ _ _ _ rfl ⟨rfl, rfl, rfl, rfl, rfl, rfl, rfl, rfl, rfl, vi HX.out.symm, vi (by rw [HX.out, HLX.out]), vi (by rw [HLE.out]), trivial⟩) hI HB.out hc hKE HE.out hEn (fun _ h _ => hL (by rw [HX.out, HLX.out, HLE.out] at h; exact h)) NX.out
    · have g1 : decide (E < -3) = false := decide_eq_false hA
      go_wp2
      apply HK2.out
      clear HK2 K2
      refine wp_cond (t := false) rfl ?_
      rw [if_neg (by decide)]
      refine wp_code (c := c9 [false, true, true, true, true]) (by kernel_rfl) ?_
      exact n9_e132 g N cap q k st e n c d ex nx E w K24 _ _ (F9m_at _ _ _ _ _ _ _ _ _ _ _ _ rfl ⟨rfl, rfl, rfl, rfl, rfl, rfl, rfl, rfl, rfl, vi HX.out.symm, vi (by rw [HX.out, HLX.out]), vi (by rw [HLE.out]), trivial⟩) hI HB.out hc hKE HE.out hEn (fun h _ _ => absurd h (by omega)) NX.out
set_option maxRecDepth 100000

/-- what minify.Number leaves: bytes of the block, worth what the text was worth -/
def N9Post (g N : Nat) (c : Nat → Nat) (q k : Nat) (ex : Int) (w : World) (e : Ending) (w' : World) : Prop :=
  ∃ (S M capx : Nat) (c' : Nat → Nat), e = .returned (.slice (some ⟨g, S, none⟩) M capx) ∧ 1 ≤ M ∧ S + M ≤ N ∧ Blk w' g N c' ∧ w.grownBy w' (some g) ∧ OutOk c N q k ex (fun j => c' (S + j)) M
theorem n9_tail (g N cap q k : Nat) (c : Nat → Nat) (ex : Int) (w : World) (u : Nat → Value) (hI : In9 c N q k ex) (hc : N ≤ cap) (hB : Blk w g N c) :
    Code.wp Tryd.prog (t9 9) (bodyPost Tryd.prog Tryd.f9 (N9Post g N c q k ex w)) (F9b g N cap (dotv k q) q ex u) w := by
  have hex : -9999 ≤ ex ∧ ex ≤ 9999 := by rcases hI.room with h | h | h <;> omega
  refine n9_a g N cap q k c ex w _ u hI hc hB (fun hz S capx c' w' h1 h2 h3 h4 => ⟨S, 1, capx, c', rfl, Nat.le_refl _, by omega, h3, h2, .inr (.inl ⟨rfl, h4, hz⟩)⟩) ?_
  intro st e a hT hf
  rw [← hf]
  refine n9_b g N cap q k st e c ex w _ _ hI hB hT ?_
  intro e n nx a hKD hf
  obtain ⟨d, hKE⟩ := hKD.ke
  obtain ⟨a0, hSh, hnx⟩ := hKE.shp hI
  have hr := room0 hI hKE rfl
  rw [← hf]
  refine n9_c g N cap k st e n ex nx w _ _ hr.2.2.2.2.1 hr.2.2.2.2.2.2.2.1 hr.2.2.2.2.2.2.2.2 hex.1 hex.2 ?_
  intro a hf
  refine n9_d g N cap q k st e n c d ex nx (nx + ex) w _ a hf hI hB hc hKE rfl ⟨0, N, cap, c, rfl, by have := hI.n1; omega, by omega, hB, World.grownBy.refl _ _, .inl ⟨rfl, fun j _ => by show c (0 + j) = c j; rw [Nat.zero_add]⟩⟩ ?_
  intro S e' capx c' w' h1 h2 h3 h4 h5
  exact ⟨S, e' - S, capx, c', rfl, by omega, by omega, h1, h2, .inr (.inr ⟨a0, n, d, hSh, by rw [← hnx]; exact h5⟩)⟩

set_option maxHeartbeats 4000000 in
theorem num9_any (g N cap q k : Nat) (c : Nat → Nat) (ex : Int) (w : World) (hI : In9 c N q k ex) (hc : N ≤ cap) (hB : Blk w g N c) :
    Calls Tryd.prog 9 #[.slice (some ⟨g, 0, none⟩) N cap, .int .i64 (-1)] w (N9Post g N c q k ex w) := by
  have hn1 := hI.n1
  have hn100 := hI.n100
  have hkq := hI.kq
  have hqN := hI.qN
  have g1 : decide ((N : Int) ≤ 1) = false := decide_eq_false (by omega)
  have h0 := hB.cell 0 (by omega)
  have hd0 : (48 ≤ c 0 ∧ c 0 ≤ 57) ∨ c 0 = 46 := by
    have h1 := hI.some
    by_cases hk : k = 0
    · right; have := hI.dot (by omega); rwa [hk] at this
    · left; exact hI.dig 0 (by omega) (by omega)
  have e1 : ((c 0 : Int) == 43) = false := by simp; omega
  have e2 : ((c 0 : Int) == 45) = false := by simp; omega
  have HB := Lib.hid hB
  have HI := Lib.hid hI
  clear hB hI hd0
  go_enter Tryd.func9, Tryd.ntmps9
  go_wp2
  rename_i KK hKK
  have HRest : ∀ (a' : Act) (w1 : World), w1 = w → (F9b g N cap (dotv k q) q ex fun k => a'.tmps.getD k undef) = a' → KK a' w1 := by
    rintro a' w1 rfl he
    rw [← he]
    apply hKK
    clear hKK he
    generalize (fun k => a'.tmps.getD k undef) = u
    refine wp_code (c := t9 9) (by kernel_rfl) ?_
    exact n9_tail g N cap q k c ex w1 u HI.out hc HB.out
  have HRest := Lib.hid HRest
  clear hKK h0 e1 e2 g1
  refine wp_loop_x (fun j : Nat => F9a g N cap (dotv k j) j) (fun n j w' => n = N - j ∧ j ≤ q ∧ w' = w) N 0 ⟨rfl, by omega, rfl⟩ (F9a_at _ _ _ _ _ rfl ⟨rfl, rfl, rfl, rfl, rfl, rfl, rfl, rfl, rfl, rfl, trivial⟩) ?_
  rintro n j u w2 ⟨hn, hj, rfl⟩ K hK
  have HN := Lib.hid hn
  have HK := Lib.hid hK
  clear hn hK
  rw [F9a_lit, sg825_36, sg825_63, sg825_677]
  have w1 : IntKind.i64.wrap ((j : Int) + 1) = ((j + 1 : Nat) : Int) := IntWalk.i64_in _ (by omega)
  by_cases hjN : j < N
  · have hlt : decide ((j : Int) < N) = true := decide_eq_true (by omega)
    have hlt2 : (j : Int) < N := by omega
    have hcj := HB.out.cell j hjN
    obtain ⟨cc, hcc⟩ : ∃ x, c j = x := ⟨_, rfl⟩
    rw [hcc] at hcj
    by_cases hjq : j < q
    · by_cases hjk : j = k
      · subst hjk
        have h46 := HI.out.dot hjq
        rw [hcc] at h46
        have HD : Hid (dotv j (j + 1) = (j : Int)) := Lib.hid (by unfold dotv; rw [if_pos (by omega)])
        obtain ⟨dv, hdv⟩ : ∃ x, dotv j j = x := ⟨_, rfl⟩
        rw [hdv]
        clear hdv hcc
        subst h46
        go_wp2
        exact HK.out (N - (j + 1)) (j + 1) _ _ (by have := HN.out; omega) ⟨rfl, by omega, rfl⟩ (by rw [HD.out]; exact F9a_at _ _ _ _ _ rfl ⟨rfl, rfl, rfl, rfl, rfl, rfl, rfl, rfl, rfl, rfl, trivial⟩)
      · have hd := HI.out.dig j hjq hjk
        rw [hcc] at hd
        have HD : Hid (dotv k (j + 1) = dotv k j) := Lib.hid (by unfold dotv; by_cases e : k < j; rw [if_pos e, if_pos (by omega)]; rw [if_neg e, if_neg (by omega)])
        obtain ⟨dv, hdv⟩ : ∃ x, dotv k j = x := ⟨_, rfl⟩
        rw [hdv] at HD ⊢
        have s1 : ((cc : Int) == 46) = false := by simp; omega
        have s2 : ((cc : Int) == 101) = false := by simp; omega
        have s3 : ((cc : Int) == 69) = false := by simp; omega
        clear hdv hcc hd
        go_wp2
        exact HK.out (N - (j + 1)) (j + 1) _ _ (by have := HN.out; omega) ⟨rfl, by omega, rfl⟩ (by rw [HD.out]; exact F9a_at _ _ _ _ _ rfl ⟨rfl, rfl, rfl, rfl, rfl, rfl, rfl, rfl, rfl, rfl, trivial⟩)
    · obtain rfl : j = q := by omega
      have hE := HI.out.exp
      rcases hE with h | ⟨_, hcq, r, hr, hrd, hr4, hk⟩
      · omega
      obtain ⟨dv, hdv⟩ : ∃ x, dotv k j = x := ⟨_, rfl⟩
      have HRest' := HRest
      clear HRest
      rw [hdv] at HRest' ⊢
      have HRest := HRest'
      clear HRest'
      rw [hcc] at hcq
      have HRD := Lib.hid hrd
      clear hdv hcc hrd
      have hlow : ∃ x : Bool, ((cc : Int) == 101) = x ∧ (x = false → ((cc : Int) == 69) = true) := ⟨_, rfl, fun h => by simp at h ⊢; omega⟩
      obtain ⟨x, hx1, hx2⟩ := hlow
      have s1 : ((cc : Int) == 46) = false := by simp; omega
      clear hcq
      rcases hk with ⟨hrq, hex⟩ | ⟨hrq, hC, hex⟩ | ⟨hrq, hC, hex⟩
      · subst hrq
        have c1 := HB.out.cell (j + 1) (by omega)
        have d1 := HRD.out (j + 1) (by omega) (by omega)
        obtain ⟨ee, hee⟩ : ∃ x, c (j + 1) = x := ⟨_, rfl⟩
        rw [hee] at c1 d1
        have t1 : ((ee : Int) == 43) = false := by simp; omega
        have HX := Lib.hid hex
        have l1 : decide ((j : Int) + 1 < N) = true := decide_eq_true (by omega)
        have l2 : (j : Int) + 1 < N := by omega
        clear hex hee d1
        have L1 : (0 : Int) < ((N - (j + 1) : Nat) : Int) := by omega
        have PC := Lib.hid (pintp_any g (j + 1) (N - (j + 1)) (cap - (j + 1)) N c w2 (by omega) (by omega) (by omega) HB.out fun i h1 h2 => HRD.out _ (by omega) (by omega))
        have hE := cest_lt c (j + 1) (N - (j + 1)) fun i hi => (HRD.out _ (by omega) (by omega)).2
        have hp : 10 ^ (N - (j + 1)) ≤ 10 ^ 4 := Nat.pow_le_pow_right (by omega) (by omega)
        have hE1 : cest c (j + 1) (N - (j + 1)) < 10000 := by omega
        clear hp hE
        obtain ⟨E, hEE⟩ : ∃ x, cest c (j + 1) (N - (j + 1)) = x := ⟨_, rfl⟩
        rw [hEE] at hE1 PC HX
        have l3 : decide ((-9223372036854775808 : Int) ≤ E) = true := decide_eq_true (by omega)
        have l4 : decide ((E : Int) ≤ 9223372036854775807) = true := decide_eq_true (by omega)
        clear hEE
        cases x
        · have hx2 := hx2 rfl
          go_wp2_with fail
          refine PC.out.mono ?_
          rintro e w' ⟨rfl, rfl⟩
          go_wp2
          exact HRest.out _ _ rfl (by rw [HX.out]; exact F9b_at _ _ _ _ _ _ rfl ⟨rfl, rfl, rfl, rfl, rfl, rfl, rfl, trivial⟩)
        · clear hx2
          go_wp2_with fail
          refine PC.out.mono ?_
          rintro e w' ⟨rfl, rfl⟩
          go_wp2
          exact HRest.out _ _ rfl (by rw [HX.out]; exact F9b_at _ _ _ _ _ _ rfl ⟨rfl, rfl, rfl, rfl, rfl, rfl, rfl, trivial⟩)
      · subst hrq
        have c1 := HB.out.cell (j + 1) (by omega)
        rw [hC] at c1
        have c2 := HB.out.cell (j + 2) (by omega)
        obtain ⟨ee, hee⟩ : ∃ x, c (j + 2) = x := ⟨_, rfl⟩
        rw [hee] at c2
        have HX := Lib.hid hex
        have HC := Lib.hid hC
        have l1 : decide ((j : Int) + 1 < N) = true := decide_eq_true (by omega)
        have l2 : (j : Int) + 1 < N := by omega
        have l5 : (j : Int) + 2 < N := by omega
        have x1 : IntKind.i64.wrap ((j : Int) + 1 + 1) = (j : Int) + 2 := IntWalk.i64_in _ (by omega)
        have L1 : (0 : Int) < (((N - (j + 2)) : Nat) : Int) := by omega
        have PC := Lib.hid (pintp_any g (j + 2) (N - (j + 2)) (cap - (j + 2)) N c w2 (by omega) (by omega) (by omega) HB.out fun i h1 h2 => HRD.out _ (by omega) (by omega))
        have hE := cest_lt c (j + 2) (N - (j + 2)) fun i hi => (HRD.out _ (by omega) (by omega)).2
        have hp : 10 ^ (N - (j + 2)) ≤ 10 ^ 4 := Nat.pow_le_pow_right (by omega) (by omega)
        have hE1 : cest c (j + 2) (N - (j + 2)) < 10000 := by omega
        clear hp hE
        obtain ⟨E, hEE⟩ : ∃ x, cest c (j + 2) (N - (j + 2)) = x := ⟨_, rfl⟩
        rw [hEE] at hE1 PC HX
        have l3 : decide ((-9223372036854775808 : Int) ≤ E) = true := decide_eq_true (by omega)
        have l4 : decide ((E : Int) ≤ 9223372036854775807) = true := decide_eq_true (by omega)
        clear hEE hC hee
        cases x
        · have hx2 := hx2 rfl
          go_wp2_with fail
          refine PC.out.mono ?_
          rintro e w' ⟨rfl, rfl⟩
          go_wp2
          exact HRest.out _ _ rfl (by rw [HX.out]; exact F9b_at _ _ _ _ _ _ rfl ⟨rfl, rfl, rfl, rfl, rfl, rfl, rfl, trivial⟩)
        · clear hx2
          go_wp2_with fail
          refine PC.out.mono ?_
          rintro e w' ⟨rfl, rfl⟩
          go_wp2
          exact HRest.out _ _ rfl (by rw [HX.out]; exact F9b_at _ _ _ _ _ _ rfl ⟨rfl, rfl, rfl, rfl, rfl, rfl, rfl, trivial⟩)
      · subst hrq
        have c1 := HB.out.cell (j + 1) (by omega)
        rw [hC] at c1
        have c2 := HB.out.cell (j + 2) (by omega)
        obtain ⟨ee, hee⟩ : ∃ x, c (j + 2) = x := ⟨_, rfl⟩
        rw [hee] at c2
        have HX := Lib.hid hex
        have HC := Lib.hid hC
        have l1 : decide ((j : Int) + 1 < N) = true := decide_eq_true (by omega)
        have l2 : (j : Int) + 1 < N := by omega
        have l5 : (j : Int) + 2 < N := by omega
        have x1 : IntKind.i64.wrap ((j : Int) + 1 + 1) = (j : Int) + 2 := IntWalk.i64_in _ (by omega)
        have L1 : (0 : Int) < (((N - (j + 1)) : Nat) : Int) := by omega
        have PC := Lib.hid (pintn_any g (j + 1) (N - (j + 1)) (cap - (j + 1)) N c w2 (by omega) (by omega) (by omega) HB.out HC.out fun i h1 h2 => HRD.out _ (by omega) (by omega))
        rw [show j + 1 + 1 = j + 2 by omega, show N - (j + 1) - 1 = N - (j + 2) by omega] at PC
        have hE := cest_lt c (j + 2) (N - (j + 2)) fun i hi => (HRD.out _ (by omega) (by omega)).2
        have hp : 10 ^ (N - (j + 2)) ≤ 10 ^ 4 := Nat.pow_le_pow_right (by omega) (by omega)
        have hE1 : cest c (j + 2) (N - (j + 2)) < 10000 := by omega
        clear hp hE
        obtain ⟨E, hEE⟩ : ∃ x, cest c (j + 2) (N - (j + 2)) = x := ⟨_, rfl⟩
        rw [hEE] at hE1 PC HX
        have l3 : decide ((-9223372036854775808 : Int) ≤ -(E : Int)) = true := decide_eq_true (by omega)
        have l4 : decide (-(E : Int) ≤ 9223372036854775807) = true := decide_eq_true (by omega)
        clear hEE hC hee
        cases x
        · have hx2 := hx2 rfl
          go_wp2_with fail
          refine PC.out.mono ?_
          rintro e w' ⟨rfl, rfl⟩
          go_wp2
          exact HRest.out _ _ rfl (by rw [HX.out]; exact F9b_at _ _ _ _ _ _ rfl ⟨rfl, rfl, rfl, rfl, rfl, rfl, rfl, trivial⟩)
        · clear hx2
          go_wp2_with fail
          refine PC.out.mono ?_
          rintro e w' ⟨rfl, rfl⟩
          go_wp2
          exact HRest.out _ _ rfl (by rw [HX.out]; exact F9b_at _ _ _ _ _ _ rfl ⟨rfl, rfl, rfl, rfl, rfl, rfl, rfl, trivial⟩)
  · obtain rfl : j = N := by omega
    obtain rfl : j = q := by omega
    have hlt : decide ((j : Int) < j) = false := decide_eq_false (by omega)
    have hex : ex = 0 := by
      rcases HI.out.exp with h | h
      · exact h.2
      · omega
    have HX := Lib.hid hex
    clear hex
    obtain ⟨dv, hdv⟩ : ∃ x, dotv k j = x := ⟨_, rfl⟩
    rw [hdv] at HRest ⊢
    clear hdv
    go_wp2
    exact HRest.out _ _ rfl (by rw [HX.out]; exact F9b_at _ _ _ _ _ _ rfl ⟨rfl, rfl, rfl, rfl, rfl, rfl, rfl, trivial⟩)
end Go.Proofs.YtblphppdfiipfaaDoor
