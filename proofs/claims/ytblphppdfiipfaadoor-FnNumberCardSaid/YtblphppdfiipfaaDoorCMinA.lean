/- minify.Number: zeros, the exponent, lengths. Conditions: none. -/
import Derived.Test.YtblphppdfiipfaaDoorCFrames
namespace Go.Proofs.YtblphppdfiipfaaDoor
open Go.RowKit
set_option maxRecDepth 100000

/-- the zeros behind, while they are looked for -/
def TrI (c : Nat → Nat) (k q i : Nat) : Prop := i < q ∧ ∀ j, i < j → j < q → k < j → c j = 48
set_option maxHeartbeats 4000000 in
theorem n9_a (g N cap q k : Nat) (c : Nat → Nat) (ex : Int) (w : World) (Post : Ending → World → Prop) (u : Nat → Value) (hI : In9 c N q k ex) (hc : N ≤ cap) (hB : Blk w g N c)
    (hz : (∀ i, i < q → i ≠ k → c i = 48) → ∀ (S capx : Nat) (c' : Nat → Nat) w', S < N → w.grownBy w' (some g) → Blk w' g N c' → c' S = 48 → Post (.returned (.slice (some ⟨g, S, none⟩) 1 capx)) w')
    (next : ∀ (st e : Nat) (a : Act), TK c q k st e → (F9c g N cap st k e ex fun k => a.tmps.getD k undef) = a → Code.wp Tryd.prog (t9 14) (bodyPost Tryd.prog Tryd.f9 Post) a w) :
    Code.wp Tryd.prog (t9 9) (bodyPost Tryd.prog Tryd.f9 Post) (F9b g N cap (dotv k q) q ex u) w := by
  have hn1 := hI.n1
  have hn100 := hI.n100
  have hkq := hI.kq
  have hqN := hI.qN
  have hsome := hI.some
  have HB := Lib.hid hB
  have HI := Lib.hid hI
  have HZ := Lib.hid hz
  have NEXT := Lib.hid next
  clear hB hI hz next
  conv => arg 2; whnf
  rw [F9b_lit, sg825_36, sg825_63, sg825_677]
  obtain ⟨st, hst⟩ : ∃ st, st = if k = 1 ∧ c 0 = 48 ∧ 2 ≤ q then 1 else 0 := ⟨_, rfl⟩
  have hst1 : (st = 1 ∧ k = 1 ∧ c 0 = 48 ∧ 2 ≤ q) ∨ (st = 0 ∧ ¬ (k = 1 ∧ c 0 = 48 ∧ 2 ≤ q)) := by
    by_cases h : k = 1 ∧ c 0 = 48 ∧ 2 ≤ q
    · rw [if_pos h] at hst; exact .inl ⟨hst, h⟩
    · rw [if_neg h] at hst; exact .inr ⟨hst, h⟩
  have HST := Lib.hid hst1
  clear hst hst1
  have HD0 : Hid (if dotv k q = -1 then k = q else dotv k q = k) := Lib.hid (by
    unfold dotv
    by_cases h : k < q
    · rw [if_pos h, if_neg (by omega)]
    · rw [if_neg h, if_pos rfl]; omega)
  have key : ∀ K : Act → World → Prop, (∀ a w', Code.wp Tryd.prog (t9 10) (bodyPost Tryd.prog Tryd.f9 Post) a w' → K a w') → ∀ a : Act, (F9c g N cap 0 k q ex fun k => a.tmps.getD k undef) = a → K a w := by
    intro K hK a he
    rw [← he]
    apply hK
    clear he
    generalize (fun k => a.tmps.getD k undef) = u
    clear hK K HD0
    conv => arg 2; whnf
    rw [F9c_lit, sg825_36, sg825_63, sg825_677]
    go_wp2
    rename_i KK hKK
    have HRest : ∀ (a' : Act) (w1 : World), w1 = w → (F9c g N cap st k q ex fun k => a'.tmps.getD k undef) = a' → KK a' w1 := by
      rintro a' w1 rfl he
      rw [← he]
      apply hKK
      clear hKK he
      generalize (fun k => a'.tmps.getD k undef) = u
      rw [F9c_lit, sg825_36, sg825_63, sg825_677]
      obtain ⟨i0, hi0⟩ : ∃ i0, q = i0 + 1 := ⟨q - 1, by omega⟩
      have HI0 := Lib.hid hi0
      clear hi0
      go_wp2
      rw [show (q : Int) - 1 = (i0 : Int) from by have := HI0.out; omega]
      rename_i KK hKK
      have HR3 : ∀ (i e : Nat) (a' : Act) (w2 : World), w2 = w1 → (TrI c k q i ∧ ((k < i ∧ c i ≠ 48 ∧ e = i + 1) ∨ (i = k ∧ e = q) ∨ (i + 1 = q ∧ k = q ∧ e = q))) → (F9e g N cap st k e i ex fun k => a'.tmps.getD k undef) = a' → KK a' w2 := by
        rintro i e a' w2 rfl ⟨⟨hiq, htr⟩, hcase⟩ he
        rw [← he]
        apply hKK
        clear hKK he
        generalize (fun k => a'.tmps.getD k undef) = u
        rw [F9e_lit, sg825_36, sg825_63, sg825_677]
        refine wp_seq_k ?_
        intro K14 hK14
        have NX : ∀ (st e : Nat) (a : Act), TK c q k st e → (F9c g N cap st k e ex fun k => a.tmps.getD k undef) = a → K14 a w2 := fun st e a h1 h2 => hK14 _ _ (wp_code (c := t9 14) (by kernel_rfl) (NEXT.out st e a h1 h2))
        have NX2 := Lib.hid NX
        clear hK14 NX
        have NX := NX2
        clear NX2
        have HTR := Lib.hid htr
        clear htr HI0
        rcases hcase with ⟨hki, hci, rfl⟩ | ⟨rfl, rfl⟩ | ⟨hiq2, rfl, rfl⟩
        · have e1 : ((i : Int) == k) = false := beq_false_of_ne (by omega)
          have hstk : st ≤ k := by rcases HST.out with h | h <;> omega
          have e2 : ((st : Int) == (i : Int)) = false := beq_false_of_ne (by omega)
          have e3 : IntKind.i64.wrap (((i + 1 : Nat) : Int) - 1) = i := by rw [show ((i + 1 : Nat) : Int) - 1 = i by omega]; exact IntWalk.i64_in _ (by omega)
          have HCI := Lib.hid hci
          clear hci
          go_wp2
          refine NX.out st (i + 1) _ ?_ (F9c_at _ _ _ _ _ _ _ rfl ⟨rfl, rfl, rfl, rfl, rfl, rfl, rfl, trivial⟩)
          have hT : ∀ j, i + 1 ≤ j → j < q → c j = 48 := fun j h1 h2 => HTR.out j (by omega) h2 (by omega)
          rcases HST.out with ⟨h1, h2, h3, h4⟩ | ⟨h1, h2⟩
          · exact .inl ⟨by omega, .inr ⟨h2, h3⟩, by omega, by omega, by rw [Nat.add_sub_cancel]; exact HCI.out, hT⟩
          · by_cases hk0 : k = 0
            · exact .inl ⟨by omega, .inl hk0, by omega, by omega, by rw [Nat.add_sub_cancel]; exact HCI.out, hT⟩
            · refine .inr (.inr ⟨h1, by omega, ?_, by omega, by omega, by rw [Nat.add_sub_cancel]; exact HCI.out, hT⟩)
              by_cases hk1 : 1 < k
              · exact HI.out.nz hk1
              · intro h48
                exact h2 ⟨by omega, h48, by omega⟩
        · have e1 : ((i : Int) == i) = true := by simp
          by_cases hsi : st = i
          · subst hsi
            have HALL : Hid (∀ j, j < e → j ≠ st → c j = 48) := Lib.hid fun j h1 h2 => by
              by_cases h3 : st < j
              · exact HTR.out j h3 h1 h3
              · rcases HST.out with ⟨h4, h5, h6, h7⟩ | ⟨h4, h5⟩
                · rw [show j = 0 by omega]; exact h6
                · omega
            have hf := HB.out.free st (by omega)
            have hcl := HB.out.cell st (by omega)
            have b1 : (st : Int) < N := by omega
            have b2 : IntKind.i64.wrap ((st : Int) + 1) = (st : Int) + 1 := IntWalk.i64_in _ (by omega)
            go_wp2
            exact HZ.out HALL.out st _ _ _ (by omega) (gb_set (World.grownBy.refl _ _) _ _) (HB.out.set st 48 (by omega)) (by unfold upb; rw [if_pos rfl])
          · have e2 : ((st : Int) == i) = false := beq_false_of_ne (by omega)
            have HSI := Lib.hid hsi
            clear hsi
            go_wp2
            refine NX.out st i _ (.inr (.inl ?_)) (F9c_at _ _ _ _ _ _ _ rfl ⟨rfl, rfl, rfl, rfl, rfl, rfl, rfl, trivial⟩)
            rcases HST.out with ⟨h1, h2, h3, h4⟩ | ⟨h1, h2⟩
            · exact absurd (by omega) HSI.out
            · have : st ≠ i := HSI.out
              refine ⟨h1, by omega, ?_, rfl, fun j h3 h4 => HTR.out j h3 h4 h3⟩
              by_cases hk1 : 1 < i
              · exact HI.out.nz hk1
              · intro h48
                exact h2 ⟨by omega, h48, by omega⟩
        · have e1 : ((i : Int) == e) = false := beq_false_of_ne (by omega)
          have e3 : IntKind.i64.wrap ((e : Int) - 1) = i := by rw [show (e : Int) - 1 = i by omega]; exact IntWalk.i64_in _ (by omega)
          have hs0 : st = 0 := by rcases HST.out with h | h <;> omega
          subst hs0
          obtain ⟨c0, hc0⟩ : ∃ x, c 0 = x := ⟨_, rfl⟩
          have hcl := HB.out.cell 0 (by omega)
          rw [hc0] at hcl
          have HC0 := Lib.hid hc0
          clear hc0
          by_cases hi0 : i = 0
          · subst hi0
            obtain rfl : e = 1 := by omega
            have b1 : (0 : Int) < N := by omega
            by_cases h48 : c0 = 48
            · subst h48
              go_wp2
              exact HZ.out (fun j h1 h2 => by rw [show j = 0 by omega]; exact HC0.out) 0 _ _ _ (by omega) (World.grownBy.refl _ _) HB.out HC0.out
            · have e4 : ((c0 : Int) == 48) = false := by simp; omega
              have H48 := Lib.hid h48
              clear h48
              go_wp2
              exact NX.out 0 _ _ (.inr (.inl ⟨rfl, by omega, by rw [HC0.out]; exact H48.out, rfl, fun j h3 h4 => by omega⟩)) (F9c_at _ _ _ _ _ _ _ rfl ⟨rfl, rfl, rfl, rfl, rfl, rfl, rfl, trivial⟩)
          · have e2 : ((0 : Int) == i) = false := beq_false_of_ne (by omega)
            go_wp2
            exact NX.out 0 _ _ (.inr (.inl ⟨rfl, by omega, HI.out.nz (by omega), rfl, fun j h3 h4 => by omega⟩)) (F9c_at _ _ _ _ _ _ _ rfl ⟨rfl, rfl, rfl, rfl, rfl, rfl, rfl, trivial⟩)
      have HR3 := Lib.hid HR3
      clear hKK
      refine wp_loop_x (fun i : Nat => F9e g N cap st k q i ex) (fun n i w' => n = i ∧ (k ≤ i ∨ i + 1 = q) ∧ TrI c k q i ∧ w' = w1) i0 i0 ⟨rfl, .inr HI0.out.symm, ⟨by have := HI0.out; omega, fun j h1 h2 => by have := HI0.out; omega⟩, rfl⟩ (F9e_at _ _ _ _ _ _ _ _ rfl ⟨rfl, rfl, rfl, rfl, rfl, rfl, rfl, rfl, trivial⟩) ?_
      rintro n i u w2 ⟨hn, hki, ⟨hiq, htr⟩, rfl⟩ K hK
      have HN := Lib.hid hn
      have HK := Lib.hid hK
      have HTR := Lib.hid htr
      clear hn hK htr
      rw [F9e_lit, sg825_36, sg825_63, sg825_677]
      by_cases hlt : k < i
      · have l1 : decide ((k : Int) < i) = true := decide_eq_true (by omega)
        have hci := HB.out.cell i (by omega)
        obtain ⟨cc, hcc⟩ : ∃ x, c i = x := ⟨_, rfl⟩
        rw [hcc] at hci
        have b1 : (i : Int) < N := by omega
        have HCC := Lib.hid hcc
        clear hcc
        by_cases h48 : cc = 48
        · subst h48
          go_wp2
          rw [show (i : Int) - 1 = ((i - 1 : Nat) : Int) from by omega]
          exact HK.out (i - 1) (i - 1) _ _ (by have := HN.out; omega) ⟨rfl, .inl (by omega), ⟨by omega, fun j h1 h2 h3 => by
            by_cases e : j = i
            · rw [e]; exact HCC.out
            · exact HTR.out j (by omega) h2 h3⟩, rfl⟩ (F9e_at _ _ _ _ _ _ _ _ rfl ⟨rfl, rfl, rfl, rfl, rfl, rfl, rfl, rfl, trivial⟩)
        · have e4 : ((cc : Int) == 48) = false := by simp; omega
          have e5 : ((cc : Int) != 48) = true := by simp; omega
          have H48 := Lib.hid h48
          clear h48
          go_wp2
          exact HR3.out i (i + 1) _ _ rfl ⟨⟨hiq, HTR.out⟩, .inl ⟨hlt, by rw [HCC.out]; exact H48.out, rfl⟩⟩ (F9e_at _ _ _ _ _ _ _ _ rfl ⟨rfl, rfl, rfl, rfl, rfl, rfl, rfl, rfl, trivial⟩)
      · have l1 : decide ((k : Int) < i) = false := decide_eq_false (by omega)
        go_wp2
        exact HR3.out i q _ _ rfl ⟨⟨hiq, HTR.out⟩, by omega⟩ (F9e_at _ _ _ _ _ _ _ _ rfl ⟨rfl, rfl, rfl, rfl, rfl, rfl, rfl, rfl, trivial⟩)
    have HRest := Lib.hid HRest
    clear hKK
    refine wp_loop_x (fun i : Nat => F9c g N cap i k q ex) (fun n i w' => n = 1 - i ∧ i ≤ st ∧ w' = w) 1 0 ⟨rfl, by omega, rfl⟩ (F9c_at _ _ _ _ _ _ _ rfl ⟨rfl, rfl, rfl, rfl, rfl, rfl, rfl, trivial⟩) ?_
    rintro n i u w2 ⟨hn, hi, rfl⟩ K hK
    have HN := Lib.hid hn
    have HK := Lib.hid hK
    clear hn hK
    rw [F9c_lit, sg825_36, sg825_63, sg825_677]
    have hst1 : st ≤ 1 := by rcases HST.out with h | h <;> omega
    by_cases his : i < st
    · have hst2 : st = 1 ∧ k = 1 ∧ c 0 = 48 ∧ 2 ≤ q := by rcases HST.out with h | h <;> omega
      obtain ⟨h1, h2, h3, h4⟩ := hst2
      obtain rfl : i = 0 := by omega
      have hci := HB.out.cell 0 (by omega)
      rw [h3] at hci
      have l1 : decide ((0 : Int) < (q : Int) - 1) = true := decide_eq_true (by omega)
      have b1 : (0 : Int) < N := by omega
      clear h1 h2 h3
      go_wp2
      exact HK.out 0 1 _ _ (by have := HN.out; omega) ⟨rfl, by omega, rfl⟩ (F9c_at _ _ _ _ _ _ _ rfl ⟨rfl, rfl, rfl, rfl, rfl, rfl, rfl, trivial⟩)
    · obtain rfl : i = st := by omega
      by_cases hq1 : i + 1 < q
      · have l1 : decide ((i : Int) < (q : Int) - 1) = true := decide_eq_true (by omega)
        have hci := HB.out.cell i (by omega)
        have hne : c i ≠ 48 := by
          rcases HST.out with ⟨h1, h2, h3, h4⟩ | ⟨h1, h2⟩
          · have := HI.out.dot (by omega)
            rw [h1, ← h2, this]; omega
          · intro h48
            rw [h1] at h48 hq1
            by_cases hk0 : k = 0
            · have := HI.out.dot (by omega)
              rw [hk0] at this; omega
            · by_cases hk1 : k = 1
              · exact h2 ⟨hk1, h48, by omega⟩
              · exact HI.out.nz (by omega) h48
        obtain ⟨cc, hcc⟩ : ∃ x, c i = x := ⟨_, rfl⟩
        rw [hcc] at hci hne
        have e4 : ((cc : Int) == 48) = false := by simp; omega
        have b1 : (i : Int) < N := by omega
        clear hcc hne
        go_wp2
        exact HRest.out _ _ rfl (F9c_at _ _ _ _ _ _ _ rfl ⟨rfl, rfl, rfl, rfl, rfl, rfl, rfl, trivial⟩)
      · have l1 : decide ((i : Int) < (q : Int) - 1) = false := decide_eq_false (by omega)
        go_wp2
        exact HRest.out _ _ rfl (F9c_at _ _ _ _ _ _ _ rfl ⟨rfl, rfl, rfl, rfl, rfl, rfl, rfl, trivial⟩)
  refine wp_seq_k ?_
  intro K hK
  have KEY := Lib.hid (key K fun a w' h => hK _ _ (wp_code (c := t9 10) (by kernel_rfl) h))
  clear key hK
  obtain ⟨dv, hdv⟩ : ∃ x, dotv k q = x := ⟨_, rfl⟩
  rw [hdv] at HD0 ⊢
  clear hdv
  by_cases hd : dv = -1
  · subst hd
    have hkq2 : k = q := by have := HD0.out; rwa [if_pos rfl] at this
    subst hkq2
    clear HD0
    go_wp2
    exact KEY.out _ (F9c_at _ _ _ _ _ _ _ rfl ⟨rfl, rfl, rfl, rfl, rfl, rfl, rfl, trivial⟩)
  · have hdk : dv = k := by have := HD0.out; rwa [if_neg hd] at this
    subst hdk
    clear HD0 hd
    have e1 : ((k : Int) == -1) = false := beq_false_of_ne (by omega)
    go_wp2
    exact KEY.out _ (F9c_at _ _ _ _ _ _ _ rfl ⟨rfl, rfl, rfl, rfl, rfl, rfl, rfl, trivial⟩)
set_option maxRecDepth 100000

theorem vi {k : IntKind} {a b : Int} (h : a = b) : Value.int k a = .int k b := by rw [h]
/-- the digits that count: start, end, how many, the point -/
def KD (c : Nat → Nat) (q k st e n : Nat) (nx : Int) : Prop :=
  (∃ m, st = k ∧ K1 c q k e m ∧ n = e - m ∧ nx = (k : Int) - m + 1) ∨ (st = 0 ∧ K2 c q k n ∧ e = n ∧ nx = k) ∨ (st = 0 ∧ K3 c q k e ∧ n = e - 1 ∧ nx = k)
set_option maxHeartbeats 4000000 in
theorem n9_b (g N cap q k st e : Nat) (c : Nat → Nat) (ex : Int) (w : World) (Post : Ending → World → Prop) (u : Nat → Value) (hI : In9 c N q k ex) (hB : Blk w g N c) (hT : TK c q k st e)
    (next : ∀ (e n : Nat) (nx : Int) (a : Act), KD c q k st e n nx → (F9k g N cap st k e ex n nx fun k => a.tmps.getD k undef) = a → Code.wp Tryd.prog (t9 18) (bodyPost Tryd.prog Tryd.f9 Post) a w) :
    Code.wp Tryd.prog (t9 14) (bodyPost Tryd.prog Tryd.f9 Post) (F9c g N cap st k e ex u) w := by
  have hn100 := hI.n100
  have hkq := hI.kq
  have hqN := hI.qN
  have HB := Lib.hid hB
  have HI := Lib.hid hI
  have NEXT := Lib.hid next
  have HT := Lib.hid hT
  clear hB hI next hT
  have hse : st ≠ e ∧ e ≤ q ∧ st ≤ k := by
    rcases HT.out with ⟨h1, h2, h3, h4, _⟩ | ⟨h1, h2, h3, h4, _⟩ | ⟨h1, h2, h3, h4, h5, _⟩ <;> omega
  obtain ⟨hse, heq, hstk⟩ := hse
  have HSE := Lib.hid hse
  clear hse
  conv => arg 2; whnf
  rw [F9c_lit, sg825_36, sg825_63, sg825_677]
  refine wp_seq_h ?_
  intro K HK
  go_wp2
  apply HK.out
  clear HK K
  refine wp_seq_h ?_
  intro K HK
  go_wp2
  apply HK.out
  clear HK K
  refine wp_seq_h ?_
  intro K HK
  go_wp2
  apply HK.out
  clear HK K
  refine wp_seq_k ?_
  intro K18 hK18
  have NX : Hid (∀ (e n : Nat) (nx : Int) (a : Act), KD c q k st e n nx → (F9k g N cap st k e ex n nx fun k => a.tmps.getD k undef) = a → K18 a w) := Lib.hid fun e n nx a h1 h2 => hK18 _ _ (wp_code (c := t9 18) (by kernel_rfl) (NEXT.out e n nx a h1 h2))
  clear hK18 NEXT
  have e0 : ((st : Int) == e) = false := beq_false_of_ne (by have := HSE.out; omega)
  rcases HT.out with ⟨h1, h2, h3, h4, h5, h6⟩ | ⟨h1, h2, h3, h4, h5⟩ | ⟨h1, h2, h3, h4, h5, h6, h7⟩
  · subst h1
    have H2 := Lib.hid h2
    have H5 := Lib.hid h5
    have H6 := Lib.hid h6
    clear h2 h5 h6
    go_wp2
    refine wp_loop_x (fun i : Nat => F9l g N cap st st e ex i) (fun n i w' => n = e - i ∧ st < i ∧ i < e ∧ (∀ j, st < j → j < i → c j = 48) ∧ w' = w) (e - (st + 1)) (st + 1) ⟨rfl, by omega, by omega, fun j h1 h2 => by omega, rfl⟩ (F9l_at _ _ _ _ _ _ _ _ rfl ⟨rfl, rfl, rfl, rfl, rfl, rfl, rfl, rfl, rfl, rfl, trivial⟩) ?_
    rintro n i u w2 ⟨hn, hi1, hi2, hzz, rfl⟩ K hK
    have HN := Lib.hid hn
    have HK := Lib.hid hK
    have HZZ := Lib.hid hzz
    clear hn hK hzz
    rw [F9l_lit, sg825_36, sg825_63, sg825_677]
    have l1 : decide ((i : Int) < e) = true := decide_eq_true (by omega)
    have hci := HB.out.cell i (by omega)
    obtain ⟨cc, hcc⟩ : ∃ x, c i = x := ⟨_, rfl⟩
    rw [hcc] at hci
    have b1 : (i : Int) < N := by omega
    have HCC := Lib.hid hcc
    clear hcc
    by_cases h48 : cc = 48
    · subst h48
      have hie : i + 1 < e := by
        refine Nat.lt_of_not_le fun h => ?_
        have := H5.out
        rw [show e - 1 = i by omega] at this
        exact this HCC.out
      go_wp2
      exact HK.out (e - (i + 1)) (i + 1) _ _ (by have := HN.out; omega) ⟨rfl, by omega, hie, fun j h1 h2 => by
        by_cases e : j = i
        · rw [e]; exact HCC.out
        · exact HZZ.out j h1 (by omega), rfl⟩ (F9l_at _ _ _ _ _ _ _ _ rfl ⟨rfl, rfl, rfl, rfl, rfl, rfl, rfl, rfl, rfl, rfl, trivial⟩)
    · have e4 : ((cc : Int) == 48) = false := by simp; omega
      have e5 : ((cc : Int) != 48) = true := by simp; omega
      have H48 := Lib.hid h48
      clear h48
      go_wp2
      exact NX.out e (e - i) ((st : Int) - i + 1) _ (.inl ⟨i, rfl, ⟨H2.out, hi1, hi2, by omega, HZZ.out, by rw [HCC.out]; exact H48.out, H6.out⟩, rfl, rfl⟩) (F9k_at _ _ _ _ _ _ _ _ _ rfl ⟨rfl, rfl, rfl, rfl, rfl, rfl, rfl, vi (by omega), vi (by omega), trivial⟩)
  · subst h1 h4
    have H3 := Lib.hid h3
    have H5 := Lib.hid h5
    clear h3 h5
    have e1 : ((e : Int) == 0) = false := beq_false_of_ne (by omega)
    have e2 : ((e : Int) == e) = true := by simp
    obtain ⟨i0, hi0⟩ : ∃ i0, e = i0 + 1 := ⟨e - 1, by omega⟩
    have HI0 := Lib.hid hi0
    clear hi0
    go_wp2
    rw [show (e : Int) - 1 = (i0 : Int) from by have := HI0.out; omega]
    refine wp_loop_x (fun i : Nat => F9r g N cap 0 e e ex i e) (fun n i w' => n = i ∧ i < e ∧ (∀ j, i < j → j < e → c j = 48) ∧ w' = w) i0 i0 ⟨rfl, by have := HI0.out; omega, fun j h1 h2 => by have := HI0.out; omega, rfl⟩ (F9r_at _ _ _ _ _ _ _ _ _ rfl ⟨rfl, rfl, rfl, rfl, rfl, rfl, rfl, rfl, rfl, vi (by omega), trivial⟩) ?_
    rintro n i u w2 ⟨hn, hi2, hzz, rfl⟩ K hK
    have HN := Lib.hid hn
    have HK := Lib.hid hK
    have HZZ := Lib.hid hzz
    clear hn hK hzz
    rw [F9r_lit, sg825_36, sg825_63, sg825_677]
    have l1 : decide ((0 : Int) ≤ i) = true := decide_eq_true (by omega)
    have hci := HB.out.cell i (by omega)
    obtain ⟨cc, hcc⟩ : ∃ x, c i = x := ⟨_, rfl⟩
    rw [hcc] at hci
    have b1 : (i : Int) < N := by omega
    have HCC := Lib.hid hcc
    clear hcc
    by_cases h48 : cc = 48
    · subst h48
      have hi0 : 0 < i := by
        refine Nat.pos_of_ne_zero fun h => ?_
        have := HCC.out
        rw [h] at this
        exact H3.out this
      go_wp2
      rw [show (i : Int) - 1 = ((i - 1 : Nat) : Int) from by omega]
      exact HK.out (i - 1) (i - 1) _ _ (by have := HN.out; omega) ⟨rfl, by omega, fun j h1 h2 => by
        by_cases e : j = i
        · rw [e]; exact HCC.out
        · exact HZZ.out j (by omega) h2, rfl⟩ (F9r_at _ _ _ _ _ _ _ _ _ rfl ⟨rfl, rfl, rfl, rfl, rfl, rfl, rfl, rfl, rfl, rfl, trivial⟩)
    · have e4 : ((cc : Int) == 48) = false := by simp; omega
      have e5 : ((cc : Int) != 48) = true := by simp; omega
      have H48 := Lib.hid h48
      clear h48
      go_wp2
      exact NX.out (i + 1) (i + 1) e _ (.inr (.inl ⟨rfl, ⟨by omega, by omega, H3.out, fun j h1 h2 => HZZ.out j (by omega) h2, H5.out⟩, rfl, rfl⟩)) (F9k_at _ _ _ _ _ _ _ _ _ rfl ⟨rfl, rfl, rfl, rfl, rfl, vi (by omega), rfl, vi (by omega), rfl, trivial⟩)
  · subst h1
    have H3 := Lib.hid h3
    have H7 := Lib.hid h7
    clear h3 h7 h6
    have e1 : ((k : Int) == 0) = false := beq_false_of_ne (by omega)
    have e2 : ((k : Int) == e) = false := beq_false_of_ne (by omega)
    go_wp2
    exact NX.out e (e - 1) k _ (.inr (.inr ⟨rfl, ⟨by omega, h4, h5, H3.out, H7.out⟩, rfl, rfl⟩)) (F9k_at _ _ _ _ _ _ _ _ _ rfl ⟨rfl, rfl, rfl, rfl, rfl, rfl, rfl, vi (by omega), vi (by omega), trivial⟩)
set_option maxRecDepth 100000

set_option maxHeartbeats 4000000 in
theorem n9_c (g N cap k st e n : Nat) (ex nx : Int) (w : World) (Post : Ending → World → Prop) (u : Nat → Value) (hn : n ≤ 100) (h1 : -200 ≤ nx) (h2 : nx ≤ 200) (h3 : -9999 ≤ ex) (h4 : ex ≤ 9999)
    (next : ∀ (a : Act), (F9m g N cap st k e ex n (nx + ex) (nx + ex - n) (lenI (nx + ex - n)) (lenI (nx + ex)) fun k => a.tmps.getD k undef) = a → Code.wp Tryd.prog (t9 23) (bodyPost Tryd.prog Tryd.f9 Post) a w) :
    Code.wp Tryd.prog (t9 18) (bodyPost Tryd.prog Tryd.f9 Post) (F9k g N cap st k e ex n nx u) w := by
  have NEXT := Lib.hid next
  clear next
  have REST : Hid (∀ a : Act, (F9k g N cap st k e ex n nx fun k => a.tmps.getD k undef) = a → Code.wp Tryd.prog (t9 19) (bodyPost Tryd.prog Tryd.f9 Post) a w) := by
    refine Lib.hid fun a he => ?_
    rw [← he]
    clear he
    generalize (fun k => a.tmps.getD k undef) = u
    obtain ⟨E, hE⟩ : ∃ E, nx + ex = E := ⟨_, rfl⟩
    rw [hE] at NEXT
    have c1 := leni_any (E - n) w (by omega) (by omega)
    have c2 := leni_any E w (by omega) (by omega)
    have C1 := Lib.hid c1
    have C2 := Lib.hid c2
    clear c1 c2
    have w1 : IntKind.i64.wrap (nx + ex) = E := by rw [hE]; exact IntWalk.i64_in _ (by omega)
    have hE1 : -10500 ≤ E ∧ E ≤ 10500 := by omega
    have b1 := hE1.1
    have b2 := hE1.2
    clear hE1
    clear hE
    conv => arg 2; whnf
    rw [F9k_lit, sg825_36, sg825_63, sg825_677]
    refine wp_seq_h ?_
    intro K HK
    go_wp2
    apply HK.out
    clear HK K w1
    refine wp_seq_h ?_
    intro K HK
    go_wp2
    apply HK.out
    clear HK K
    refine wp_seq_h ?_
    intro K HK
    go_wp2_with fail
    refine C1.out.mono ?_
    rintro e1 w' ⟨rfl, rfl⟩
    go_wp2
    apply HK.out
    clear HK K
    refine wp_seq_h ?_
    intro K HK
    go_wp2_with fail
    refine C2.out.mono ?_
    rintro e1 w' ⟨rfl, rfl⟩
    go_wp2
    apply HK.out
    clear HK K
    refine wp_code (c := t9 23) (by kernel_rfl) ?_
    exact NEXT.out _ (F9m_at _ _ _ _ _ _ _ _ _ _ _ _ rfl ⟨rfl, rfl, rfl, rfl, rfl, rfl, rfl, rfl, rfl, rfl, rfl, rfl, trivial⟩)
  clear NEXT
  conv => arg 2; whnf
  rw [F9k_lit, sg825_36, sg825_63, sg825_677]
  refine wp_seq_k ?_
  intro K hK
  have KF : Hid (∀ a : Act, Code.wp Tryd.prog (t9 19) (bodyPost Tryd.prog Tryd.f9 Post) a w → K a w) := Lib.hid fun a h => hK _ _ (wp_code (c := t9 19) (by kernel_rfl) h)
  clear hK
  have w0 : IntKind.i64.wrap (nx - n) = nx - n := IntWalk.i64_in _ (by omega)
  by_cases hx : ex < 0
  · skip
    have d1 : decide (ex < 0) = true := decide_eq_true (by omega)
    have d3 : IntKind.i64.wrap (-9223372036854775808 - ex) = -9223372036854775808 - ex := IntWalk.i64_in _ (by omega)
    have d4 : decide (nx < -9223372036854775808 - ex) = false := decide_eq_false (by omega)
    have d5 : decide (nx - n < -9223372036854775808 - ex) = false := decide_eq_false (by omega)
    have d2 : decide (0 < ex) = false := decide_eq_false (by omega)
    go_wp2
    apply KF.out
    clear KF K d1 d2 d3 d4 d5
    exact REST.out _ (F9k_at _ _ _ _ _ _ _ _ _ rfl ⟨rfl, rfl, rfl, rfl, rfl, rfl, rfl, rfl, rfl, trivial⟩)
  by_cases hy : 0 < ex
  · skip
    have d1 : decide (ex < 0) = false := decide_eq_false (by omega)
    have d2 : decide (0 < ex) = true := decide_eq_true (by omega)
    have d3 : IntKind.i64.wrap (9223372036854775807 - ex) = 9223372036854775807 - ex := IntWalk.i64_in _ (by omega)
    have d4 : decide (9223372036854775807 - ex < nx) = false := decide_eq_false (by omega)
    have d5 : decide (9223372036854775807 - ex < nx - n) = false := decide_eq_false (by omega)
    go_wp2
    apply KF.out
    clear KF K d1 d2 d3 d4 d5
    exact REST.out _ (F9k_at _ _ _ _ _ _ _ _ _ rfl ⟨rfl, rfl, rfl, rfl, rfl, rfl, rfl, rfl, rfl, trivial⟩)
  · skip
    have d1 : decide (ex < 0) = false := decide_eq_false (by omega)
    have d2 : decide (0 < ex) = false := decide_eq_false (by omega)
    go_wp2
    apply KF.out
    clear KF K d1 d2
    exact REST.out _ (F9k_at _ _ _ _ _ _ _ _ _ rfl ⟨rfl, rfl, rfl, rfl, rfl, rfl, rfl, rfl, rfl, trivial⟩)
end Go.Proofs.YtblphppdfiipfaaDoor
